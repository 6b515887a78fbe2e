import PyProof.Rows.All
import Wide.FinOn
import OpenK.AllK
import Wide.All
import Lean
import PySem.Challenge.RW_xo0029_01
set_option Elab.async false
set_option linter.all false
set_option maxRecDepth 100000
open PySem PySem.W PyProof.Rows PySem.Calls PySem.Spec
namespace Mine
variable {os₀ : OsState}
section -- HB
/-- a word of all members, laid member by member -/
theorem allC {α : Type} {P : α → Prop} {a : α} {l : List α} (h : P a) (t : ∀ p, p ∈ l → P p) : ∀ p, p ∈ a :: l → P p := fun p hp => by
  cases hp with
  | head => exact h
  | tail _ hp => exact t p hp
theorem allN {α : Type} {P : α → Prop} : ∀ p, p ∈ ([] : List α) → P p := fun _ h => nomatch h
theorem allA {α : Type} {P : α → Prop} {l l' : List α} (h : ∀ p, p ∈ l → P p) (t : ∀ p, p ∈ l' → P p) : ∀ p, p ∈ l ++ l' → P p := fun p hp => (List.mem_append.mp hp).elim (h p) (t p)
theorem nat3 {n : Nat} (h : n < 3) : n = 0 ∨ n = 1 ∨ n = 2 := by
  cases n with
  | zero => exact .inl rfl
  | succ n => cases n with
    | zero => exact .inr (.inl rfl)
    | succ n => cases n with
      | zero => exact .inr (.inr rfl)
      | succ n => exact absurd h (Nat.not_lt.mpr (Nat.le_add_left 3 n))
theorem nat4 {n : Nat} (h : n < 4) : n = 0 ∨ n = 1 ∨ n = 2 ∨ n = 3 := by
  cases n with
  | zero => exact .inl rfl
  | succ n => exact .inr ((nat3 (Nat.lt_of_succ_lt_succ h)).imp (congrArg Nat.succ) (Or.imp (congrArg Nat.succ) (congrArg Nat.succ)))
theorem lenS {α : Type} {P : List α → Prop} {n : Nat} (k : ∀ a t, t.length = n → P (a :: t)) (xs : List α) (h : xs.length = n + 1) : P xs := by
  cases xs with
  | nil => cases h
  | cons a t => exact k a t (Nat.succ.inj h)
theorem len0 {α : Type} {P : List α → Prop} (k : P []) (xs : List α) (h : xs.length = 0) : P xs := by
  cases xs with
  | nil => exact k
  | cons a t => cases h
/-- a list of eight, laid open -/
theorem list8 {α : Type} {P : List α → Prop} (k : ∀ a b c d e f g i, P [a, b, c, d, e, f, g, i]) : ∀ xs : List α, xs.length = 8 → P xs :=
  lenS fun a => lenS fun b => lenS fun c => lenS fun d => lenS fun e => lenS fun f => lenS fun g => lenS fun i => len0 (k a b c d e f g i)
theorem mod3 (d : Int) : d % 3 = 0 ∨ d % 3 = 1 ∨ d % 3 = 2 := by
  obtain ⟨n, hn⟩ := Int.eq_ofNat_of_zero_le (Int.emod_nonneg d (by decide : (3 : Int) ≠ 0))
  have h := Int.emod_lt_of_pos d (by decide : (0 : Int) < 3)
  rw [hn] at h ⊢
  rcases nat3 (Int.ofNat_lt.mp h) with rfl | rfl | rfl
  · exact .inl rfl
  · exact .inr (.inl rfl)
  · exact .inr (.inr rfl)
theorem mod4 (d : Int) : d % 4 = 0 ∨ d % 4 = 1 ∨ d % 4 = 2 ∨ d % 4 = 3 := by
  obtain ⟨n, hn⟩ := Int.eq_ofNat_of_zero_le (Int.emod_nonneg d (by decide : (4 : Int) ≠ 0))
  have h := Int.emod_lt_of_pos d (by decide : (0 : Int) < 4)
  rw [hn] at h ⊢
  rcases nat4 (Int.ofNat_lt.mp h) with rfl | rfl | rfl | rfl
  · exact .inl rfl
  · exact .inr (.inl rfl)
  · exact .inr (.inr (.inl rfl))
  · exact .inr (.inr (.inr rfl))
theorem two4 {m : Nat} (h : m = 2 ∨ m = 3 ∨ m = 4) : 2 ≤ m ∧ m ≤ 4 := by rcases h with rfl | rfl | rfl <;> decide
theorem subA {n i : Nat} (h : i < n) : n + 1 - (i + 1) < n + 1 - i := by
  rw [Nat.add_sub_add_right]
  exact Nat.sub_lt_sub_right (Nat.le_of_lt h) (Nat.lt_succ_self n)
theorem subC {n i j : Nat} (h : n - i = j + 1) : i < n := Nat.lt_of_sub_ne_zero (h ▸ Nat.succ_ne_zero j)
theorem subB {n i j : Nat} (h : n - i = j + 1) : n - (i + 1) = j := by rw [Nat.sub_add_eq, h]; rfl
end
local macro_rules | `(tactic| omega) => `(tactic| lia)
section -- GL
set_option maxHeartbeats 4000000
/-- a code under which a bytearray's maker would refuse -/
noncomputable def bad : Code → Bool
  | .builtin id _ => Builtin.Bytes.decodersThatHold.contains id || guardIds.contains id
  | _ => false
noncomputable def Clean (l : List (Code × Pos)) : Prop := ∀ x ∈ l, bad x.1 = false
noncomputable def wpG {α : Type} (M : Model) (A : Around) (t : Sem α) (Q : α → Shared → Prop) (E : Value → Shared → Prop) (s : Shared) : Prop :=
  ∀ Γ p, Γ.In A → bad Γ.code = false → Clean Γ.below → Sem.wp M Γ t (fun a _ s' => Q a s') (fun e _ s' => E e s') p s
noncomputable def codeG (M : Model) (A : Around) (c : Code) (R : Result → Shared → Prop) (s : Shared) : Prop :=
  ∀ Γ p, Γ.code = c → Γ.Below A → Clean Γ.below → wpCode M Γ R p s
section
variable {α β : Type} {M : Model} {A : Around} {E : Value → Shared → Prop} {s : Shared}
theorem gAny {t : Sem α} {Q : α → Shared → Prop} (h : wpAny M A t Q E s) : wpG M A t Q E s := fun Γ p hΓ _ _ => h Γ p hΓ
/-- the outcome asked, kept out of sight -/
theorem gAbs {t : Sem α} {Q : α → Shared → Prop} (h : ∀ Q' : α → Shared → Prop, (∀ a s, Q a s → Q' a s) → wpG M A t Q' E s) : wpG M A t Q E s := h Q fun _ _ x => x
theorem onF {p q : Prop} (h : q) : (if false = true then p else q) := h
theorem onT {p q : Prop} (h : p) : (if true = true then p else q) := h
theorem absQ {t : Sem α} {Q : α → Shared → Prop} (h : ∀ Q' : α → Shared → Prop, (∀ a s, Q a s → Q' a s) → wpAny M A t Q' E s) : wpAny M A t Q E s := h Q fun _ _ x => x
theorem gMono {t : Sem α} {Q Q' : α → Shared → Prop} {E' : Value → Shared → Prop} (h : wpG M A t Q E s) (hQ : ∀ a s, Q a s → Q' a s) (hE : ∀ e s, E e s → E' e s) : wpG M A t Q' E' s :=
  fun Γ p hΓ hb hc => Sem.wp_mono M Γ t (fun a _ s => hQ a s) (fun e _ s => hE e s) p s (h Γ p hΓ hb hc)
theorem gBind {m : Sem α} {f : α → Sem β} {Q : β → Shared → Prop} (h : wpG M A m (fun a s' => wpG M A (f a) Q E s') E s) : wpG M A (m >>= f) Q E s := fun Γ p hΓ hb hc => by
  rw [Sem.wp_bind']
  exact Sem.wp_mono M Γ m (fun a p' s' h' => h' Γ p' hΓ hb hc) (fun _ _ _ h' => h') p s (h Γ p hΓ hb hc)
theorem gBindA {m : Sem α} {f : α → Sem β} {Q : β → Shared → Prop} (h : wpAny M A m (fun a s' => wpG M A (f a) Q E s') E s) : wpG M A (m >>= f) Q E s := gBind (gAny h)
theorem gBindZ {m : Sem α} {f : α → Sem β} {Q : β → Shared → Prop} (h : wpG M A m (fun a s' => wpAny M A (f a) Q E s') E s) : wpG M A (m >>= f) Q E s := gBind (gMono h (fun _ _ x => gAny x) fun _ _ x => x)
theorem gHolding {vs : List Value} {m : Sem α} {Q : α → Shared → Prop} (h : wpG M A m Q E s) : wpG M A (holding vs m) Q E s := fun Γ p hΓ hb hc => by rw [Sem.wp_holding]; exact h Γ p hΓ hb hc
theorem gKeep {vs : List Value} {m : Sem α} {Q : α → Shared → Prop} (h : wpG M A m Q E s) : wpG M A (m.keep vs) Q E s := fun Γ p hΓ hb hc => by rw [Sem.wp_keep]; exact h Γ p hΓ hb hc
theorem gOnRaise {m : Sem α} {k : Value → Sem Unit} {Q : α → Shared → Prop} (h : wpG M A m Q (fun _ _ => False) s) : wpG M A (m.onRaise k) Q E s := fun Γ p hΓ hb hc => by
  rw [Sem.wp_onRaise]
  exact Sem.wp_mono M Γ m (fun _ _ _ h' => h') (fun e p' s' h' => h'.elim) p s (h Γ p hΓ hb hc)
theorem gRun {c : Code} {h : Option Value} {Q : Flow → Shared → Prop} (hc : codeG M (A.mark h) c (fun r s' => match r with | .ok f => Q f s' | .error e => E e s') s) (hnb : h ≠ some byPass) : wpG M A (run c h) Q E s := fun Γ p hΓ hb hcl => by
  have e : ∀ x ∈ (Γ.enter c h p).below, bad x.1 = false := by
    intro x hx
    rcases List.mem_cons.mp hx with rfl | hx
    · exact hb
    · exact hcl x hx
  have := hc (Γ.enter c h p) p rfl (hΓ.enter c h p hnb) e
  rw [Sem.wp_run]
  exact this
theorem gRunValue {c : Code} {Q : Value → Shared → Prop} (hc : codeG M A c (fun r s' => match r with | .ok (.ret v) => Q v s' | .ok _ => False | .error e => E e s') s) : wpG M A (runValue c) Q E s := fun Γ p hΓ hb hcl => by
  have e : ∀ x ∈ (Γ.enter c none p).below, bad x.1 = false := by
    intro x hx
    rcases List.mem_cons.mp hx with rfl | hx
    · exact hb
    · exact hcl x hx
  rw [Sem.wp_runValue]
  exact hc _ p rfl (hΓ.enter c none p (by intro x; cases x)) e
theorem gCall {f : Value} {pos : List Value} {kw : List (Str × Value)} {Q : Value → Shared → Prop} (hc : codeG M A (.call f ⟨pos, kw⟩) (fun r s' => match r with | .ok (.ret v) => Q v s' | .ok _ => False | .error e => E e s') s) : wpG M A (call f pos kw) Q E s := gRunValue hc
theorem gTree {c : Code} {R : Result → Shared → Prop} (hbad : bad c = false)
    (h : wpG M (A.under c) (M.den c) (fun fin s' => match fin with | .done f => R (.ok f) s' | .again c' => c'.quiet = true ∧ codeG M A c' R s') (fun e s' => R (.error e) s') s) : codeG M A c R s := fun Γ p hc hΓ hcl => by
  rw [wpCode_iff_wp, hc]
  refine Sem.wp_mono M Γ _ (fun fin p' s' h' => ?_) (fun _ _ _ h' => h') p s (h Γ p (hc ▸ hΓ.in) (hc ▸ hbad) hcl)
  cases fin with
  | done f => exact h'
  | again c' => exact ⟨h'.1, h'.2 (Γ.goto c') p' rfl (hΓ.goto c') hcl⟩
theorem codeG_mono {c : Code} {R R' : Result → Shared → Prop} (h : codeG M A c R s) (hR : ∀ r s, R r s → R' r s) : codeG M A c R' s := fun Γ p hc hΓ hcl => by
  obtain ⟨r, s', h1, h2⟩ := h Γ p hc hΓ hcl
  exact ⟨r, s', h1, hR _ _ h2⟩
theorem codeG_any {c : Code} {R : Result → Shared → Prop} (h : codeAny M A c R s) : codeG M A c R s := fun Γ p hc hΓ _ => h Γ p hc hΓ
theorem gLoop {c : Code} {R : Result → Shared → Prop} (hbad : bad c = false) (hq : c.quiet = true) (I : Nat → Shared → Prop)
    (turn : ∀ n s, I n s → wpG M (A.under c) (M.den c) (fun fin s' => match fin with | .done f => R (.ok f) s' | .again c' => c' = c ∧ ∃ m, m < n ∧ I m s') (fun e s' => R (.error e) s') s)
    (n : Nat) (h : I n s) : codeG M A c R s := by
  induction n using Nat.strongRecOn generalizing s with
  | ind n ih =>
    refine gTree hbad (gMono (turn n s h) (fun fin s' hf => ?_) fun _ _ h' => h')
    cases fin with
    | done f => exact hf
    | again c' => obtain ⟨rfl, m, hm, hI⟩ := hf; exact ⟨hq, ih m hm hI⟩
end
section
variable {M : Model} {A : Around} {E : Value → Shared → Prop} {s : Shared} {env : Env}
theorem gExecsCons {st : Stmt} {rest : List Stmt} {Q : Flow → Shared → Prop} (h : wpG M A (exec st env) (fun f s' => match f with | .next => wpG M A (execs rest env) Q E s' | f => Q f s') E s) : wpG M A (execs (st :: rest) env) Q E s := fun Γ p hΓ hb hc => by
  rw [execs_cons, Sem.wp_bind']
  refine Sem.wp_mono M Γ _ (fun f p' s' h' => ?_) (fun _ _ _ h' => h') _ _ (h Γ p hΓ hb hc)
  cases f <;> first | exact h' Γ p' hΓ hb hc | exact h'
theorem gExecsApp {rest : List Stmt} {Q : Flow → Shared → Prop} : ∀ {pre : List Stmt} {s : Shared}, wpAny M A (execs pre env) (fun f s' => match f with | .next => wpG M A (execs rest env) Q E s' | f => Q f s') E s → wpG M A (execs (pre ++ rest) env) Q E s
  | [], s, h => fun Γ p hΓ hb hc => by
    have := h Γ p hΓ
    exact this Γ p hΓ hb hc
  | st :: pre, s, h => fun Γ p hΓ hb hc => by
    have h1 := h Γ p hΓ
    rw [execs_cons, Sem.wp_bind'] at h1
    show Sem.wp M Γ (execs (st :: (pre ++ rest)) env) _ _ p s
    rw [execs_cons, Sem.wp_bind']
    refine Sem.wp_mono M Γ _ (fun f p' s' h' => ?_) (fun _ _ _ h' => h') _ _ h1
    cases f with
    | next =>
      have h2 : ∀ {pre : List Stmt} {s : Shared} {p}, Sem.wp M Γ (execs pre env) (fun f _ s' => match f with | .next => wpG M A (execs rest env) Q E s' | f => Q f s') (fun e _ s' => E e s') p s → Sem.wp M Γ (execs (pre ++ rest) env) (fun a _ s' => Q a s') (fun e _ s' => E e s') p s := by
        intro pre
        induction pre with
        | nil => intro s p h; exact h Γ p hΓ hb hc
        | cons st pre ih =>
          intro s p h
          rw [execs_cons, Sem.wp_bind'] at h
          show Sem.wp M Γ (execs (st :: (pre ++ rest)) env) _ _ p s
          rw [execs_cons, Sem.wp_bind']
          refine Sem.wp_mono M Γ _ (fun f p' s' h' => ?_) (fun _ _ _ h' => h') _ _ h
          cases f <;> first | exact ih h' | exact h'
      exact h2 h'
    | _ => exact h'
theorem gAssignName {x : Str} {pos' : Pos} {value : Expr} {pos : Pos} {Q : Flow → Shared → Prop} (h : wpG M A (eval value env) (fun v s₁ => wpAny M A (storeName env x v) (fun _ => Q .next) E s₁) E s)
    (hs : swapsWith value (some (.Name x pos')) pos.line env = pure false) : wpG M A (exec (.Assign [.Name x pos'] value pos) env) Q E s := fun Γ p hΓ hb hc => by
  simp only [exec_Assign_Name env x pos' value pos hs, Sem.wp_bind', Sem.wp_cmd_standAt, Sem.wp_bindName, Sem.wp_pure']
  exact Sem.wp_mono M Γ _ (fun v _ s₁ h₁ => h₁ Γ _ hΓ) (fun _ _ _ h' => h') _ _ (h Γ _ hΓ hb hc)
theorem gReturn {e : Expr} {pos : Pos} {Q : Flow → Shared → Prop} (h : wpG M A (eval e env) (fun v => Q (.ret v)) E s) : wpG M A (exec (.Return (some e) pos) env) Q E s := fun Γ p hΓ hb hc => by
  simp only [exec_Return_some, Sem.wp_bind', Sem.wp_cmd_standAt, Sem.wp_pure']; exact h Γ _ hΓ hb hc
theorem gCallName {x : Str} {np pos : Pos} {args : List Expr} {keywords : List Keyword} {Q : Value → Shared → Prop}
    (h : wpAny M A (eval (.Name x np) env) (fun f s₁ => wpG M A (callWith pos f [] (backTo pos (starEach args env)) (backToKw pos (keywordEach keywords env))) Q E s₁) E s) :
    wpG M A (eval (.Call (.Name x np) args keywords pos) env) Q E s := by
  show wpG M A (do callWith pos (← eval (.Name x np) env) [] (backTo pos (starEach args env)) (backToKw pos (keywordEach keywords env))) Q E s
  exact gBindA h
theorem gTail {t : Sem Value} {Q : Value → Shared → Prop} (ht : wpG M A t Q E s) : wpG M A (t >>= fun r => holding [r] point >>= fun _ => pure r) Q E s :=
  gBindZ (gMono ht (fun _ _ hr => wpAny_bind (wpAny_holding (wpAny_point (wpAny_pure hr)))) fun _ _ x => x)
theorem gCallWithF {pos : Pos} {a : Addr} {o : Obj} {fd : FuncData} {first : List Value} {args : List (Bool × Sem Value)} {Q : Value → Shared → Prop} (hp : args.any (·.1) = false)
    (h : wpG M A (evalArgs (.ref a) true args []) (fun x s₁ => (s₁.heap.get? a = some o ∧ o.data = .func fd) ∧ wpG M A (call (.ref a) (first ++ x.pos) x.kw) Q E s₁) E s) :
    wpG M A (callWith pos (.ref a) first args []) Q E s := by
  delta callWith
  dsimp only
  refine gBind (gHolding (gMono h (fun x s₁ h₁ => gBindA (wpAny_standAt ?_)) fun _ _ x => x))
  rw [hp]; dsimp only [List.any_nil, Bool.or_false]
  refine gBindA (m := keeperOf (.ref a)) ?_
  unfold keeperOf
  refine wpAny_bind (wpAny_load h₁.1.1 ?_)
  rw [h₁.1.2]
  refine wpAny_pure ?_
  show wpG M A (ite _ _ _) _ _ _
  split
  · exact gTail h₁.2
  · exact gTail (by unfold callMarked; exact gKeep h₁.2)
theorem gCallWithT {pos : Pos} {T : String} {first : List Value} {args : List (Bool × Sem Value)} {Q : Value → Shared → Prop} (hp : args.any (·.1) = false)
    (h : wpG M A (evalArgs (.type T) true args []) (fun x s₁ => wpG M A (call (.type T) (first ++ x.pos) x.kw) Q E s₁) E s) :
    wpG M A (callWith pos (.type T) first args []) Q E s := by
  delta callWith
  dsimp only
  refine gBind (gHolding (gMono h (fun x s₁ h₁ => gBindA (wpAny_standAt ?_)) fun _ _ x => x))
  rw [hp]; dsimp only [List.any_nil, Bool.or_false]
  exact gBindA (wpAny_pure (gTail h₁))
theorem gSplicedNil {Q : List Value → Shared → Prop} (h : Q [] s) : wpG M A (spliced []) Q E s := gAny (wpAny_pure h)
theorem gSplicedCons {x : Sem Value} {rest : List (Bool × Sem Value)} {Q : List Value → Shared → Prop} (h : wpG M A x (fun v s₁ => wpG M A (spliced rest) (fun vs s₂ => Q (v :: vs) s₂) E s₁) E s) : wpG M A (spliced ((false, x) :: rest)) Q E s := by
  rw [spliced]
  refine gBind (gMono h (fun v s₁ h₁ => ?_) fun _ _ x => x)
  simp only [Bool.false_eq_true, if_false]
  exact gBindA (wpAny_pure (gBind (gHolding (gMono h₁ (fun vs s₂ h₂ => gAny (wpAny_pure h₂)) fun _ _ x => x))))
theorem gEvalArgs {f : Value} {x : Sem Value} {rest : List (Bool × Sem Value)} {Q : Args → Shared → Prop} (h : wpG M A (spliced ((false, x) :: rest)) (fun vs s' => Q ⟨vs, []⟩ s') E s) : wpG M A (evalArgs f true ((false, x) :: rest) []) Q E s := by
  unfold evalArgs
  show wpG M A (spliced ((false, x) :: rest) >>= _) Q E s
  refine gBind (gMono h (fun vs s' h' => ?_) fun _ _ x => x)
  refine gHolding ?_
  exact gAny (wpAny_bind (wpAny_pure (wpAny_bind (wpAny_pure (wpAny_pure h')))))
theorem gBackTo {pos : Pos} {x : Sem Value} {Q : Value → Shared → Prop} (h : wpG M A x Q E s) : wpG M A (do let v ← x; standAt pos; pure v) Q E s := gBind (gMono h (fun _ _ h => gAny (wpAny_bind (wpAny_standAt (wpAny_pure h)))) fun _ _ x => x)
end
section
variable {prog : Program} {w : World} {A : Around} {E : Value → Shared → Prop} {s : Shared} {env : Env} {R : Result → Shared → Prop}
theorem gCallFun {a : Addr} {args : Args} {o : Obj} {fd : FuncData} {body : List Stmt} (hroom : A.depth < recursionLimit) (ho : s.heap.get? a = some o)
    (hd' : o.data = .func fd) (hco : fd.scope.isCoroutine = false) (hgen : fd.scope.isGenerator = false) (hbody : fd.body = .stmts body) (hcd : s.heap.CodeRec fd.code fd.qualname)
    (h : wpAny (model prog w) A.in1 (bindArgs fd args) (fun binds s₁ =>
      wpAny (model prog w) A.in1 (newFunctionEnv fd.scope fd.globals fd.closure binds (fd.qualname ++ ".<locals>.") (some a) fd.code none fd.builtins)
        (fun env s₂ => s₂.heap.NoLimit ∧ codeG (model prog w) A (.func body env) R s₂) (fun e s' => R (.error e) s') s₁) (fun e s' => R (.error e) s') s) :
    codeG (model prog w) A (.call (.ref a) args) R s := by
  refine gTree rfl ?_
  show wpG _ A.in1 (callAny (.ref a) args) _ _ s
  delta callAny; dsimp only
  refine gBindA (wpAny_load ho ?_)
  obtain ⟨c, oc, vs, tq, hc, hoc, hdc, hq⟩ := hcd
  rw [hd']
  delta callFunction
  dsimp only
  rw [hco, hgen, hbody, hc]
  dsimp only
  rw [hc] at h
  refine gBindA (m := field (.ref c) 1) (wpAny_field hoc hdc hq ?_)
  refine gBindA (wpAny_pure ?_)
  exact gBindA (wpAny_mono h (fun binds s₁ h₁ => gBindA (wpAny_mono h₁ (fun env s₂ h₂ => gBindA (wpAny_enterFrame h₂.1 hroom (gAny (wpAny_pure (And.intro rfl h₂.2))))) fun _ _ h' => h')) fun _ _ h' => h')
theorem gFunc {body : List Stmt} (h : wpG (model prog w) (A.deeper env) (execs body env) (fun f s' => R (.ok (.ret (match f with | .ret v => v | _ => .none))) s') (fun _ _ => False) s) : codeG (model prog w) A (.func body env) R s := by
  refine gTree rfl ?_
  show wpG _ (A.deeper env) (do point; match ← (execs body env).onRaise (leaving env) with | .ret v => ret v | _ => ret .none) _ _ s
  refine gBindA (wpAny_point (gBind (gMono (E := fun _ _ => False) (gOnRaise h) (fun f s' h' => ?_) fun _ _ h' => False.elim h')))
  cases f <;> exact gAny (wpAny_pure h')
theorem gIsTrue {test : Expr} {body orelse : List Stmt} (hh : A.handled = none) (I : Nat → Shared → Prop)
    (turn : ∀ n s, I n s → wpAny (model prog w) A (isTrue test env (eval test env)) (fun b s₂ =>
        if b then wpG (model prog w) A (execs body env) (fun f s₃ => match f with
            | .next | .cont => ∃ m, m < n ∧ I m s₃
            | .brk => R (.ok .next) s₃
            | .ret v => R (.ok (.ret v)) s₃) (fun _ _ => False) s₂
        else wpAny (model prog w) A (execs orelse env) (fun f s₃ => R (.ok f) s₃) (fun _ _ => False) s₂) (fun _ _ => False) s)
    (n : Nat) (h : I n s) : codeG (model prog w) A (.whileLoop test body orelse env) R s := by
  refine gLoop rfl rfl I (fun n s hI => ?_) n h
  show wpG _ A ((whileTurn test body orelse env).onRaise (fun x => do noteFrame x env; theTreesLotGoes x)) _ _ s
  refine gMono (E := fun _ _ => False) (gOnRaise ?_) (fun _ _ x => x) (fun _ _ x => False.elim x)
  simp only [whileTurn]
  refine gBindA (wpAny_mono (turn n s hI) (fun b s₂ h₂ => ?_) fun _ _ h' => h')
  cases b with
  | false =>
    simp only [Bool.false_eq_true, if_false] at h₂ ⊢
    exact gAny (wpAny_bind (wpAny_mono h₂ (fun f s₃ h₃ => wpAny_pure h₃) fun _ _ h' => h'))
  | true =>
    simp only [if_true] at h₂ ⊢
    refine gBind (gMono h₂ (fun f s₃ h₃ => ?_) fun _ _ h' => h')
    cases f with
    | next => exact gAny (wpAny_pure ⟨rfl, h₃⟩)
    | cont => exact gAny (wpAny_pure ⟨rfl, h₃⟩)
    | brk => exact gAny (wpAny_pure h₃)
    | ret v => exact gAny (wpAny_pure h₃)
theorem gWhile {test : Expr} {body orelse : List Stmt} {pos : Pos} {Q : Flow → Shared → Prop} (h : codeG (model prog w) A (.whileLoop test body orelse env) (fun r s' => match r with | .ok f => Q f s' | .error _ => False) s) : wpG (model prog w) A (exec (.While test body orelse pos) env) Q E s := by
  rw [exec_While]
  refine gBindA (wpAny_standAt ?_)
  unfold runOwn
  refine gMono (E := fun _ _ => False) (gOnRaise (gRun (h := none) ?_ (by intro x; cases x))) (fun _ _ x => x) (fun _ _ x => False.elim x)
  refine codeG_mono h fun r s' x => ?_
  cases r with
  | ok f => exact x
  | error e => exact x
end
end
section -- TH
open PySem PySem.W PyProof.Rows
set_option maxHeartbeats 80000000
noncomputable def vw : Program := view PySem.Challenge.pw_xo0029_01 [0, 28]
noncomputable def vloose : List Str := ["_wall", "_quoted", "_paren_depth", "_twin_re_1", "_indent", "NL", "EMPTYSTRING", "_ValueFormatter", "_Accumulator", "_byteswap", "_law_numbers", "_law_cells", "_law_signs", "_law_fold", "_law_told", "_law_flat", "_law_turned", "_law_diagram", "_law_pairs", "_law_exchange", "_law_hooks", "_law_sorted"]
noncomputable abbrev topFromT (p : Program) (w : World) (N : Nat) (s₀ : Shared) : Option Shared :=
  match s₀.heap.isNs mainGlobals && s₀.gens.size == 0 with
  | true => (Fast.tw14082659384304107361 Fast.tw14364793385576792824 p w s₀.heap.objs.size (s₀.heap.nsMap mainGlobals "__annotations__") N s₀ (topStub p)).bind fun s₁ => match staticsOk (importedModules p.main.body) s₀.heap s₁.heap && namesBound p s₁.heap && gensDone s₁ && laidKept s₀.heap s₁.heap with
      | true => some s₁
      | false => none
  | false => none
noncomputable abbrev fencedT (p : Program) (w : World) (N : Nat) : Option Shared :=
  (Fast.tw10274390034422433532 Fast.tw14364793385576792824 (opening p) w N (start (opening p)).1 (start (opening p)).2).bind (fenceModules? p)
theorem openEnds_T (p : Program) (w : World) (N : Nat) : openEnds treeTable p w N = (fencedT p w N).bind (topFromT p w N) := by
  unfold openEnds fencedOpening fencedT
  rw [← Fast.te10274390034422433532, ← Fast.te14364793385576792824]
  have e : topFrom treeTable p w N = topFromT p w N := by
    funext s₀
    unfold topFrom topFromT
    rw [← Fast.te14082659384304107361, ← Fast.te14364793385576792824]
    rfl
  rw [e]
section
open PySem.Calls
theorem endsG {prog : Program} {w : World} {t : Sem Fin} {s : Shared} {R : Result → Shared → Prop} (hreg : s.asleep)
    (h : wpG (model prog w) callerA t (fun fin s' => ∃ f, fin = .done f ∧ (R (.ok f) s' ∧ leftWithCleanup s'.gens = false)) (fun e s' => R (.error e) s' ∧ leftWithCleanup s'.gens = false) s) :
    ∃ n r s' s'', runN (denote table) prog w n s ⟨t, .builtin "claim.caller" {}, default, []⟩ = .halted (outcomeOf r) s' ∧
      schedN (denote table) prog w n (.single s ⟨t, .builtin "claim.caller" {}, default, []⟩) = .halted (outcomeOf r) s' ∧ s'.forget = s''.forget ∧ R r s'' := by
  have hw : Sem.wp (model prog w) ⟨.builtin "claim.caller" {}, none, none, [], none⟩ t (Sem.finPost (model prog w) ⟨.builtin "claim.caller" {}, none, none, [], none⟩ fun r s' => R r s' ∧ leftWithCleanup s'.gens = false) (fun e _ s' => R (.error e) s' ∧ leftWithCleanup s'.gens = false) default s :=
    Sem.wp_mono _ _ t (fun fin p' s' h' => by obtain ⟨f, rfl, hf⟩ := h'; exact hf) (fun _ _ _ h' => h') default s (h _ default caller_in (by decide +kernel) fun _ hx => nomatch hx)
  obtain ⟨n, r, s₁, s₂, hs, hn, hfo, hR⟩ := wp_halts_full (M := model prog w) (R := R) hreg hw
  exact ⟨n, r, s₂, s₁, hn, hs, hfo, hR⟩
end
section
open PySem.Calls
theorem fromG {c : ClaimW} {tree : List Value → Sem Fin} {w : World} {s : Shared} {free : Addr → Prop} {gens : Prop} {kept : Heap → Prop} (hz : s.asleep) (hgens : s.gens = #[])
    (hspec : ∀ args, c.pre args = true → WData.layableAll args = true → ∀ ord : List DictEntry → List DictEntry, (∀ l, (ord l).Perm l) →
      ∃ vs s₁, layAllW c.records (classAt s.heap) w.params ord args s = some (vs, s₁) ∧
        wpG (model c.prog w) callerA (tree vs) (fun fin s' => ∃ f, fin = .done f ∧ (c.Ends s args vs s₁ (.ok f) s' ∧ s'.os = s.os ∧ AllBare s'.gens ∧ kept s'.heap))
          (fun e s' => c.Ends s args vs s₁ (.error e) s' ∧ s'.os = s.os ∧ AllBare s'.gens ∧ kept s'.heap) s₁) :
    c.CallFrom (fun vs => ⟨tree vs, .builtin "claim.caller" {}, default, []⟩) w free gens kept s := by
  intro args hpre hlay ord hord
  refine (hspec args hpre hlay ord hord).elim fun vs hx => hx.elim fun s₁ hx => ?_
  have hlaid := hx.1
  have hcode := hx.2
  have hal := layAllW_rest _ _ _ hlaid
  have hw : wpG (model c.prog w) callerA (tree vs) (fun fin s' => ∃ f, fin = .done f ∧ ((c.Ends s args vs s₁ (.ok f) s' ∧ s'.os = s.os ∧ kept s'.heap) ∧ leftWithCleanup s'.gens = false))
      (fun e s' => (c.Ends s args vs s₁ (.error e) s' ∧ s'.os = s.os ∧ kept s'.heap) ∧ leftWithCleanup s'.gens = false) s₁ :=
    gMono hcode (fun _ _ ⟨f, e, h1, h2, h3, h4⟩ => ⟨f, e, ⟨h1, h2, h4⟩, leftWithCleanup_false_of_bare h3⟩) fun _ _ ⟨h1, h2, h3, h4⟩ => ⟨⟨h1, h2, h4⟩, leftWithCleanup_false_of_bare h3⟩
  refine (endsG (R := fun r s' => c.Ends s args vs s₁ r s' ∧ s'.os = s.os ∧ kept s'.heap) (Shared.asleep_of_life hal.2.2.2 hz) hw).elim fun k hy => hy.elim fun r hy => hy.elim fun s' hy => hy.elim fun s'' hy => ?_
  have hrun := hy.1
  have hsched := hy.2.1
  have hfo := Shared.forget_eq hy.2.2.1
  have eh := hfo.1
  have eo := hfo.2.2.2.1
  have hcase := hy.2.2.2.1.congr eh
  have hos := hy.2.2.2.2.1
  have hkp := hy.2.2.2.2.2
  clear hy hx hw
  rw [← eo] at hos
  rw [← eh] at hkp
  have hlife : s'.heap.life = s.heap.life := (runN_life _ _ _ hrun).trans hal.2.2.2
  refine ⟨vs, s₁, hlaid, k, _, s', hsched, ?_, (fun _ i x hx => by rw [hgens] at hx; simp at hx), hkp, by rw [hlife], Shared.rest_eq hos⟩
  refine hcase.elim (fun q => q.elim fun v q => ?_) fun q => q.elim fun e q => q.elim fun ob q => q.elim fun cls q => ?_
  · rw [q.1]
    exact .inl ⟨v, rfl, q.2.1, q.2.2.1, q.2.2.2.1, fun b o y _ => q.2.2.2.2.1 b o y, q.2.2.2.2.2⟩
  · rw [q.1]
    exact .inr ⟨e, ob, cls, rfl, q.2.1, q.2.2.1, q.2.2.2.1, q.2.2.2.2.1, fun b o y _ => q.2.2.2.2.2 b o y⟩
/-- the walk that the head asks for, over clean stacks -/
noncomputable abbrev WalkG (q : Program) (loose : List Str) (XP : (Str → Option Value) → Heap → Prop) (YP : World → Heap → Prop) (r : RowW) (d : DefRec) (kwd : List (Str × Expr)) : Prop :=
  ∀ (w : World) (s₀ s₁ : Shared) (mg mb : Str → Option Value), Ground q loose r.records XP w s₀ mg mb s₁.heap → YP w s₁.heap → ∀ (a : Addr) (o : Obj) (pm cd doc dV kV : Value), s₁.heap.get? a = some o →
    o.data = .func { docDef d.name d.params d.body d.scope pm cd doc with defaults := dV, kwdefaults := kV } → s₁.heap.CodeRec cd d.name → Dflts mg s₁.heap d.params kwd dV kV → mg d.name = some (.ref a) → s₁.gens = #[] →
    ∀ (args : List WData) (vals : List Value) (as : List Addr), r.claim.pre args = true → WData.layableAll args = true → ReadsAllW r.records (classAt s₀.heap) s₁.heap vals args as → WellAll w.params s₁.heap vals args → (∀ a ∈ as, (a == sysModules) = false) →
      wpG (model r.prog w) callerA (PySem.call (.ref a) vals) (fun v s' => GoodWG r.claim (classAt s₀.heap) (ExcName.means s₀.heap) args s₁ (.ok (.ret v)) s') (fun _ _ => False) s₁
theorem holdsG {r : OpenRow} {q : Program} {loose : List Str} {Xt : Shared → Bool} {XP : (Str → Option Value) → Heap → Prop} {α : Type} {Yf : Shared → α} {Ya : World → α} {YP : World → Heap → Prop} {d : DefRec} {kwd : List (Str × Expr)} {N : Nat}
    (left : LeftO r.prog q loose Xt Yf Ya N) (hY : ∀ w s, Yf s = Ya w → YP w s.heap) (hYk : ∀ w h h', YP w h → (∀ b o, h.get? b = some o → h'.get? b = some o) → YP w h')
    (hX : ∀ s, Xt s = true → XP (s.heap.nsMap mainGlobals) s.heap) (hXk : ∀ mg h h', XP mg h → (∀ b o, h.get? b = some o → h'.get? b = some o) → XP mg h')
    (hdef : defOf q r.name = some (d, kwd)) (hp : r.prog.theDef r.name = some (d.params, d.body, d.scope)) (hk : kwWritten? d.params.kwonlyargs d.params.kw_defaults = some kwd) (hRf : ∀ s, Xt s = true → RecFacts r.records s.heap) (hwr : (!r.writes || r.records.isEmpty) = true)
    (k1 : r.wellSaid = true) (ok : (chainsOk q && opensWell r.prog && (frees r.toRowW && r.within.isEmpty)) = true) (hb : r.prog.bare) (hw : r.toRowW.promised)
    (call : WalkG q loose XP YP r.toRowW d kwd) : r.Holds := by
  have ok1 := (Bool.and_eq_true_iff.mp (Bool.and_eq_true_iff.mp ok).1)
  have hch := ok1.1
  have o1 := ok1.2
  have k56 := Bool.and_eq_true_iff.mp (Bool.and_eq_true_iff.mp ok).2
  have k6 := k56.2
  have fp := frees_parts k56.1
  have hsame := fp.1
  have hu := fp.2.1
  have ha := fp.2.2.1
  have hap := fp.2.2.2.1
  have hm := fp.2.2.2.2
  clear k56 ok1 fp ok
  refine ⟨k1, hw, ?_⟩
  refine ⟨⟨hb, o1, by show r.makers.map _ = []; rw [hm]; rfl⟩, hw.witness, fun w => ⟨(left.behind hX hch w).1, fun s' hs' => ?_⟩⟩
  refine ((left.behind (XP := fun mg h => XP mg h ∧ RecFacts r.records h) (fun s hs => ⟨hX s hs, hRf s hs⟩) hch w).2 s' hs').elim fun s₀ qq => ?_
  have hf := qq.1
  have hg0 := qq.2.1
  refine qq.2.2.elim fun s qq => ?_
  have hT := qq.1
  have hz := qq.2.1
  have hgens := qq.2.2.1
  have hg := qq.2.2.2.1
  have G00 := qq.2.2.2.2.1
  have y := qq.2.2.2.2.2
  clear qq
  have G0 : Ground q loose [] XP w s (s.heap.nsMap mainGlobals) (s.heap.nsMap builtinsNs) s.heap := ⟨G00.T, G00.B, G00.D, G00.TE, G00.TD, G00.W, G00.X.1, G00.cls, G00.has, G00.apart, G00.once, G00.K⟩
  have RF := G00.X.2
  have pin : ∀ n ∈ (if r.writes then [] else [r.name]), isTheDefsW r.prog s.heap n := by
    intro n hn
    obtain rfl : n = r.name := by split at hn <;> simp_all
    exact pinned_of_view hg G0 hdef hp hk
  have hT' := hT
  refine ⟨s₀, hf, hg0, s, hT, ?_, RF.1, RF.2.1, ?_⟩
  · first | exact pin | (intro n hn; obtain rfl : n = r.name := by first | (split at hn <;> simp_all) | simp_all
                         exact pinned_of_view hg G0 hdef hp hk)
  have hgens : s.gens = #[] := Array.eq_empty_of_size_eq_zero (beq_iff_eq.mp hgens)
  have G : Ground q loose r.records XP w s _ _ s.heap := RF.ground G0
  refine fromG (c := r.claim) (tree := fun vs => do match ← nsGet mainNs r.name with
      | some f => do ret (← PySem.call f vs)
      | none => unsupported "claim.caller:no-such-global") hz hgens fun args hpre hlay ord hord => ?_
  refine (Option.isSome_iff_exists.mp (layAllW_isSome (P := w.params) (ord := ord) G.has args r.args s (pre_splitW hpre).1)).elim fun vs1 hlaid => ?_
  obtain ⟨vs, s₁⟩ := vs1
  have keeps := layAllW_keeps _ _ _ hlaid
  have hal := layAllW_rest _ _ _ hlaid
  obtain ⟨as, hrd, hin, hold⟩ := reads_layAllW hord _ _ _ hlaid hlay s₁.heap (fun _ _ e => e)
  have L : Laid r.records w s s₁ args vs as := ⟨⟨ord, hord, hlaid⟩, hrd, hin, hold, keeps, hal.1.trans hgens, hal.2.2.1⟩
  have G₁ := G.keeps hXk keeps
  obtain ⟨a, o, pm, cd, doc, dV, kV, h1, h2, h3, h4, h5⟩ := G₁.fn hdef
  have h := call w s s₁ _ _ G₁ (hYk _ _ _ (hY w s y) keeps) a o pm cd doc dV kV h2 h3 h4 h5 (defOf_name hdef ▸ h1) L.gens args vs as hpre hlay L.reads L.well (L.low G.low)
  have hi := ident_freeW hu ha hap
  have hwi : r.claim.within = [] := List.isEmpty_iff.mp k6
  refine ⟨vs, s₁, hlaid, gBindA (wpAny_nsGet G₁.T.g ?_)⟩
  rw [h1]
  refine gBind (gMono h (fun v s' g => gAny (wpAny_pure ⟨_, rfl, ?_⟩)) fun _ _ x => False.elim x)
  have z := g.laid (c := r.claim) hsame hwi hi L
  exact ⟨z.1, z.2.1, z.2.2, fun q => ⟨namesKept_of hT' hg _ keeps g.2.1.old, noTable hwr q⟩⟩
end
/-- a code's table, empty -/
noncomputable def tab0 (h : Heap) (a : Addr) : Bool := match h.get? a with
  | some ⟨.none, none, .fields ⟨[]⟩, ⟨[]⟩⟩ => true
  | _ => false
theorem tab0_of {h : Heap} {a : Addr} (e : tab0 h a = true) : h.get? a = some (tabObj #[]) := by
  unfold tab0 at e
  split at e
  · assumption
  · cases e
/-- the tables of the two codes that make generators in the methods -/
noncomputable def hook2 (H : Hook) : Hook := ⟨H.α × Bool, fun s => (H.obs s, tab0 s.heap 183 && tab0 s.heap 190), fun w => (H.val w, true), fun w h => H.says w h ∧ h.get? 183 = some (tabObj #[]) ∧ h.get? 190 = some (tabObj #[]),
  fun w s e => ⟨H.of w s (congrArg Prod.fst e), by
    obtain ⟨a, b⟩ := Bool.and_eq_true_iff.mp (congrArg Prod.snd e)
    exact ⟨tab0_of a, tab0_of b⟩⟩,
  fun w h h' x k => ⟨H.keeps w h h' x.1 k, k _ _ x.2.1, k _ _ x.2.2⟩⟩
theorem ws : PySem.Challenge.rw_xo0029_01.wellSaid = true := by kernel_rfl
theorem holdsG1 (H : Hook) {d : DefRec} {kwd : List (Str × Expr)} (left : LeftO (PySem.Challenge.rw_xo0029_01.row).prog vw vloose (fun s => xlAt vw [] s && recOk (RowW.records PySem.Challenge.rw_xo0029_01.row.toRowW) s) (Hook.obs (hook2 H)) (Hook.val (hook2 H)) 3600)
    (hdef : defOf vw (PySem.Challenge.rw_xo0029_01.row).name = some (d, kwd)) (hp : (PySem.Challenge.rw_xo0029_01.row).prog.theDef (PySem.Challenge.rw_xo0029_01.row).name = some (d.params, d.body, d.scope)) (hk : kwWritten? d.params.kwonlyargs d.params.kw_defaults = some kwd) (hw : (PySem.Challenge.rw_xo0029_01.row).toRowW.promised)
    (call : WalkG vw vloose (XL vw []) (Hook.says (hook2 H)) (PySem.Challenge.rw_xo0029_01.row).toRowW d kwd) : (PySem.Challenge.rw_xo0029_01.row).Holds :=
  holdsG left (Hook.of (hook2 H)) (Hook.keeps (hook2 H)) (fun s e => xl_of s (Bool.and_eq_true_iff.mp e).1) XL.keeps hdef hp hk (fun s e => recFacts_of (Bool.and_eq_true_iff.mp e).2) (by rfl) (row_said ws) (by decide +kernel) ⟨rfl, rfl, rfl, rfl, rfl, by decide +kernel⟩ hw call
local macro_rules | `(tactic| o_head $H:term) => `(tactic| (refine holdsG1 $H ?hl (by rfl) (by rfl) (by rfl) ?hw ?hc; case hl => (intro w; rw [openEnds_T]; kernel_rfl)))
open_top hd for PySem.Challenge.rw_xo0029_01.row
end
section -- TB
set_option maxHeartbeats 4000000
noncomputable abbrev vl0 : List Str := looseW vw vloose
/-- the names of which the bare top says nothing -/
noncomputable def vl : List Str := vl0 ++ (recsOf vw).map (·.name) ++ (litsOf vw).map (·.1) ++ (clssOf vw vl0).map (·.name)
/-- what stands below every call: the text's own part, the top's facts -/
structure Base (w : World) (mean : ExcName → Option Value) (mg mb : Str → Option Value) (h : Heap) : Prop where
  K : (hd.heap_1 w.params).In h
  T : Top topProg vl mean mg mb h
noncomputable abbrev Grows (h h' : Heap) : Prop := ∀ b o, h.get? b = some o → h'.get? b = some o
theorem Base.keeps {w : World} {mean : ExcName → Option Value} {mg mb : Str → Option Value} {h h' : Heap} (B : Base w mean mg mb h) (k : Grows h h') : Base w mean mg mb h' := ⟨B.K.keeps k, B.T.keeps k⟩
structure Room (A : Around) (d : Nat) : Prop where
  hh : A.handled = none
  hd : A.depth + d < recursionLimit
  hu : A.units + 10 * d < cLine
theorem Room.deeper {A : Around} {d : Nat} {env : Env} (r : Room A (d + 1)) : Room (A.deeper env) d := ⟨r.hh, by have := r.hd; show A.depth + 1 + d < _; omega, by have := r.hu; show A.units + 3 + 10 * d < _; omega⟩
theorem Room.in1 {A : Around} {d : Nat} (r : Room A (d + 1)) : Room A.in1 d := ⟨r.hh, by have := r.hd; show A.depth + d < _; omega, by have := r.hu; show A.units + 1 + 10 * d < _; omega⟩
theorem Room.less {A : Around} {d e : Nat} (r : Room A d) (h : e ≤ d) : Room A e := ⟨r.hh, by have := r.hd; omega, by have := r.hu; omega⟩
theorem Room.depth {A : Around} {d : Nat} (r : Room A d) : A.depth < recursionLimit := by have := r.hd; omega
/-- a call that turns nothing: what it gives, and that all stays -/
noncomputable abbrev Fn (w : World) (mean : ExcName → Option Value) (mg mb : Str → Option Value) (d : Nat) (f : Addr) (vs : List Value) (P : Heap → Prop) (R : Heap → Value → Heap → Prop) : Prop :=
  ∀ (A : Around) (s : Shared) (Q E : Value → Shared → Prop), Room A d → Base w mean mg mb s.heap → P s.heap → (∀ v h' tk, Grows s.heap h' → R s.heap v h' → Q v { s with heap := h', toks := tk }) →
    wpAny (model PySem.Challenge.rw_xo0029_01.row.prog w) A (call (.ref f) vs) Q E s
theorem Fn.intro {w : World} {mean : ExcName → Option Value} {mg mb : Str → Option Value} {d : Nat} {f : Addr} {vs : List Value} {P : Heap → Prop} {R : Heap → Value → Heap → Prop}
    (h : ∀ dp fr gd un g gs dr tk os (Q E : Value → Shared → Prop), Room ⟨none, dp, fr, gd, un⟩ d → Base w mean mg mb g → P g → (∀ v h' tk', Grows g h' → R g v h' → Q v ⟨h', gs, dr, tk', os⟩) → wpAny (model PySem.Challenge.rw_xo0029_01.row.prog w) ⟨none, dp, fr, gd, un⟩ (call (.ref f) vs) Q E ⟨g, gs, dr, tk, os⟩) : Fn w mean mg mb d f vs P R := by
  rintro ⟨hh, dp, fr, gd, un⟩ ⟨g, gs, dr, tk, os⟩ Q E r B p ret
  obtain rfl : hh = none := r.hh
  exact h dp fr gd un g gs dr tk os Q E r B p ret
/-- a list that was made, and its items -/
noncomputable def NewL (h : Heap) (v : Value) (h' : Heap) (ys : List Value) : Prop := ∃ D n, v = .ref D ∧ h.get? D = none ∧ h'.get? D = some { cls := .type "list", data := .seq ys.toArray n }
theorem NewL.of {h h' : Heap} {L D : Addr} {ys : List Value} {n : Nat} {news : List (Addr × Obj)} (N : News h L h' news) (hm : (D, ({ cls := .type "list", data := .seq ys.toArray n } : Obj)) ∈ news) : NewL h (.ref D) h' ys := ⟨D, n, rfl, (N _ hm).2.2, (N _ hm).1⟩
section
variable {w : World} {mean : ExcName → Option Value} {mg mb : Str → Option Value} {A : Around} {s : Shared} {Q E : Value → Shared → Prop}
theorem enter0 {f : Addr} {oc : Value} {od : Option Addr} {osl : Array (Option Value)} {name qual : Str} {params : Arguments} {body : List Stmt} {scope : Scope} {dV kV doc pm cdv ct : Value} {an : Option Addr} {vs : List Value} {binds : List (Str × Value)}
    (B : Base w mean mg mb s.heap) (hroom : A.depth < recursionLimit)
    (ho : (hd.heap_1 w.params).lookup f = some ⟨oc, od, .func (fnOf name qual params body scope dV kV doc pm an cdv ct), osl⟩) (hcd : codeIn (hd.heap_1 w.params) cdv qual = true)
    (hbind : BindsTo s (fnOf name qual params body scope dV kV doc pm an cdv ct) ⟨vs, []⟩ binds) (hloc : ∀ y ∈ binds, scope.names.lookup y.1 = some .local)
    (hcell : ∀ x ∈ scope.names, x.2 ≠ .cell) (hco : scope.isCoroutine = false) (hgen : scope.isGenerator = false) (hk : scope.kind = .function)
    (h : ∀ L' h₁, Fr s.heap L' h₁ (fun y => binds.reverse.lookup y) → News s.heap L' h₁ [] →
      wpAny (model PySem.Challenge.rw_xo0029_01.row.prog w) (A.deeper (envOf qual scope L' f cdv)) (execs body (envOf qual scope L' f cdv))
        (fun fl s' => Q (match fl with | .ret v => v | _ => .none) s') (fun _ _ => False) { s with heap := h₁, toks := s.toks + binds.length }) :
    wpAny (model PySem.Challenge.rw_xo0029_01.row.prog w) A (call (.ref f) vs) Q E s := by
  refine wpAny_call (codeAny_call_def (fd := fnOf name qual params body scope dV kV doc pm an cdv ct) (body := body) (binds := binds) hroom (B.K _ _ ho) rfl B.T.nolimit (codeRec_of B.K hcd) rfl hbind hcell hloc (fun h₁ hns hk₁ => ?_) hco hgen hk)
  exact wpAny_mono (h _ h₁ ⟨hns, hk₁, Nat.le_refl _⟩ News.nil) (fun fl s' x => x) (fun _ _ x => x.elim)
theorem enterC {f : Addr} {oc : Value} {od : Option Addr} {osl : Array (Option Value)} {name qual : Str} {params : Arguments} {body : List Stmt} {scope : Scope} {dV kV doc pm cdv ct : Value} {an : Option Addr} {vs : List Value} {binds : List (Str × Value)}
    (B : Base w mean mg mb s.heap) (hroom : A.depth < recursionLimit)
    (ho : (hd.heap_1 w.params).lookup f = some ⟨oc, od, .func (fnOf name qual params body scope dV kV doc pm an cdv ct), osl⟩) (hcd : codeIn (hd.heap_1 w.params) cdv qual = true)
    (hbind : BindsTo s (fnOf name qual params body scope dV kV doc pm an cdv ct) ⟨vs, []⟩ binds)
    (hkind : (binds.all fun y => scope.names.lookup y.1 == some .local || scope.names.lookup y.1 == some .cell) = true)
    (hnd : ((cellsFrom 0 scope.names []).map (·.1)).Nodup) (hco : scope.isCoroutine = false) (hgen : scope.isGenerator = false) (hk : scope.kind = .function)
    (h : ∀ L' h₁ tk cells, Fr s.heap L' h₁ (bindL (envOfC qual scope L' f cdv).kindOf binds fun _ => none) → News s.heap L' h₁ cells →
      CellsAre (bindC (envOfC qual scope L' f cdv).kindOf binds fun _ => none) (cellsFrom (L' + 1) scope.names []) cells →
      wpAny (model PySem.Challenge.rw_xo0029_01.row.prog w) (A.deeper (envOfC qual scope L' f cdv)) (execs body (envOfC qual scope L' f cdv))
        (fun fl s' => Q (match fl with | .ret v => v | _ => .none) s') (fun _ _ => False) { s with heap := h₁, toks := tk }) :
    wpAny (model PySem.Challenge.rw_xo0029_01.row.prog w) A (call (.ref f) vs) Q E s := by
  refine wpAny_call ?_
  refine codeAny_call_function hroom (B.K _ _ ho) rfl hco hgen rfl (codeRec_of B.K hcd) (hbind _ _ _ _ ?_)
  refine wpAny_newFunctionEnv_cells hk (kindsX hkind _) fun env' he s' x => ?_
  subst he
  refine ⟨B.T.nolimit.keeps x.toInCall.keep, codeAny_func ?_⟩
  obtain ⟨h₁, tk, rfl, _⟩ := x.done
  have hk₁ := x.toInCall.keep
  obtain ⟨cells, NC, Y⟩ := Cl.news (h₀ := s.heap) (Nat.le_refl _) fun n c hm => ⟨x.cell n c (lookup_of_mem_nodup (cellsFrom_names scope.names 0 (s.heap.objs.size + 1) [] [] rfl ▸ hnd) hm), x.above n c hm⟩
  exact wpAny_mono (h _ h₁ tk cells ⟨x.toInCall.ns, hk₁, Nat.le_refl _⟩ NC Y) (fun fl s' x => x) (fun _ _ x => x.elim)
end
end
local macro_rules | `(tactic| k_room) => `(tactic| exact Room.depth (by assumption))
local macro_rules | `(tactic| walk_at $s:str) => `(tactic| k_extra $s)
section -- TC
set_option maxHeartbeats 4000000
/-- the contract over clean stacks -/
noncomputable abbrev FnG (w : World) (mean : ExcName → Option Value) (mg mb : Str → Option Value) (d : Nat) (f : Addr) (vs : List Value) (P : Heap → Prop) (R : Heap → Value → Heap → Prop) : Prop :=
  ∀ (A : Around) (s : Shared) (Q E : Value → Shared → Prop), Room A d → Base w mean mg mb s.heap → P s.heap → (∀ v h' tk, Grows s.heap h' → R s.heap v h' → Q v { s with heap := h', toks := tk }) →
    wpG (model PySem.Challenge.rw_xo0029_01.row.prog w) A (call (.ref f) vs) Q E s
theorem FnG.intro {w : World} {mean : ExcName → Option Value} {mg mb : Str → Option Value} {d : Nat} {f : Addr} {vs : List Value} {P : Heap → Prop} {R : Heap → Value → Heap → Prop}
    (h : ∀ dp fr gd un g gs dr tk os (Q E : Value → Shared → Prop), Room ⟨none, dp, fr, gd, un⟩ d → Base w mean mg mb g → P g → (∀ v h' tk', Grows g h' → R g v h' → Q v ⟨h', gs, dr, tk', os⟩) → wpG (model PySem.Challenge.rw_xo0029_01.row.prog w) ⟨none, dp, fr, gd, un⟩ (call (.ref f) vs) Q E ⟨g, gs, dr, tk, os⟩) : FnG w mean mg mb d f vs P R := by
  rintro ⟨hh, dp, fr, gd, un⟩ ⟨g, gs, dr, tk, os⟩ Q E r B p ret
  obtain rfl : hh = none := r.hh
  exact h dp fr gd un g gs dr tk os Q E r B p ret
section
variable {w : World} {mean : ExcName → Option Value} {mg mb : Str → Option Value} {A : Around} {s : Shared} {Q E : Value → Shared → Prop}
theorem enter0G {f : Addr} {oc : Value} {od : Option Addr} {osl : Array (Option Value)} {name qual : Str} {params : Arguments} {body : List Stmt} {scope : Scope} {dV kV doc pm cdv ct : Value} {an : Option Addr} {vs : List Value} {binds : List (Str × Value)}
    (B : Base w mean mg mb s.heap) (hroom : A.depth < recursionLimit)
    (ho : (hd.heap_1 w.params).lookup f = some ⟨oc, od, .func (fnOf name qual params body scope dV kV doc pm an cdv ct), osl⟩) (hcd : codeIn (hd.heap_1 w.params) cdv qual = true)
    (hbind : BindsTo s (fnOf name qual params body scope dV kV doc pm an cdv ct) ⟨vs, []⟩ binds) (hloc : ∀ y ∈ binds, scope.names.lookup y.1 = some .local)
    (hcell : ∀ x ∈ scope.names, x.2 ≠ .cell) (hco : scope.isCoroutine = false) (hgen : scope.isGenerator = false) (hk : scope.kind = .function)
    (h : ∀ L' h₁ tk, Fr s.heap L' h₁ (fun y => binds.reverse.lookup y) → News s.heap L' h₁ [] →
      wpG (model PySem.Challenge.rw_xo0029_01.row.prog w) (A.deeper (envOf qual scope L' f cdv)) (execs body (envOf qual scope L' f cdv))
        (fun fl s' => Q (match fl with | .ret v => v | _ => .none) s') (fun _ _ => False) { s with heap := h₁, toks := tk }) :
    wpG (model PySem.Challenge.rw_xo0029_01.row.prog w) A (call (.ref f) vs) Q E s := by
  refine gCall (gCallFun hroom (B.K _ _ ho) rfl hco hgen rfl (codeRec_of B.K hcd) (hbind _ _ _ _ ?_))
  refine wpAny_newFunctionEnv hcell hloc (fun h₀ hns₀ hsb₀ => ⟨B.T.nolimit.fresh _ hsb₀, gFunc ?_⟩) hk
  have keep : ∀ b o, s.heap.get? b = some o → h₀.get? b = some o := fun b o e => hsb₀.extBut b o (Nat.ne_of_lt (Heap.lt_size e)) (Heap.get?_push_of_some _ e)
  exact h _ _ _ ⟨hns₀, keep, Nat.le_refl _⟩ News.nil
theorem enterCG {f : Addr} {oc : Value} {od : Option Addr} {osl : Array (Option Value)} {name qual : Str} {params : Arguments} {body : List Stmt} {scope : Scope} {dV kV doc pm cdv ct : Value} {an : Option Addr} {vs : List Value} {binds : List (Str × Value)}
    (B : Base w mean mg mb s.heap) (hroom : A.depth < recursionLimit)
    (ho : (hd.heap_1 w.params).lookup f = some ⟨oc, od, .func (fnOf name qual params body scope dV kV doc pm an cdv ct), osl⟩) (hcd : codeIn (hd.heap_1 w.params) cdv qual = true)
    (hbind : BindsTo s (fnOf name qual params body scope dV kV doc pm an cdv ct) ⟨vs, []⟩ binds)
    (hkind : (binds.all fun y => scope.names.lookup y.1 == some .local || scope.names.lookup y.1 == some .cell) = true)
    (hnd : ((cellsFrom 0 scope.names []).map (·.1)).Nodup) (hco : scope.isCoroutine = false) (hgen : scope.isGenerator = false) (hk : scope.kind = .function)
    (h : ∀ L' h₁ tk cells, Fr s.heap L' h₁ (bindL (envOfC qual scope L' f cdv).kindOf binds fun _ => none) → News s.heap L' h₁ cells →
      CellsAre (bindC (envOfC qual scope L' f cdv).kindOf binds fun _ => none) (cellsFrom (L' + 1) scope.names []) cells →
      wpG (model PySem.Challenge.rw_xo0029_01.row.prog w) (A.deeper (envOfC qual scope L' f cdv)) (execs body (envOfC qual scope L' f cdv))
        (fun fl s' => Q (match fl with | .ret v => v | _ => .none) s') (fun _ _ => False) { s with heap := h₁, toks := tk }) :
    wpG (model PySem.Challenge.rw_xo0029_01.row.prog w) A (call (.ref f) vs) Q E s := by
  refine gCall (gCallFun hroom (B.K _ _ ho) rfl hco hgen rfl (codeRec_of B.K hcd) (hbind _ _ _ _ ?_))
  refine wpAny_newFunctionEnv_cells hk (kindsX hkind _) fun env' he s' x => ?_
  subst he
  refine ⟨B.T.nolimit.keeps x.toInCall.keep, gFunc ?_⟩
  obtain ⟨h₁, tk, rfl, _⟩ := x.done
  have hk₁ := x.toInCall.keep
  obtain ⟨cells, NC, Y⟩ := Cl.news (h₀ := s.heap) (Nat.le_refl _) fun n c hm => ⟨x.cell n c (lookup_of_mem_nodup (cellsFrom_names scope.names 0 (s.heap.objs.size + 1) [] [] rfl ▸ hnd) hm), x.above n c hm⟩
  exact h _ h₁ tk cells ⟨x.toInCall.ns, hk₁, Nat.le_refl _⟩ NC Y
end
section
variable {M : Model} {A : Around} {E : Value → Shared → Prop} {s : Shared} {env : Env}
theorem gArgs {f : Value} {pos : Pos} {e : Expr} {rest : List Expr} {Q : Args → Shared → Prop} (he : backTo pos (starEach (e :: rest) env) = (false, eval e env) :: backTo pos (starEach rest env))
    (h : wpG M A (eval e env) (fun v s₁ => wpG M A (spliced (backTo pos (starEach rest env))) (fun vs s₂ => Q ⟨v :: vs, []⟩ s₂) E s₁) E s) : wpG M A (evalArgs f true (backTo pos (starEach (e :: rest) env)) []) Q E s := by
  rw [he]
  exact gEvalArgs (gSplicedCons h)
theorem gArg {pos : Pos} {e : Expr} {rest : List Expr} {Q : List Value → Shared → Prop} (he : backTo pos (starEach (e :: rest) env) = (false, eval e env) :: backTo pos (starEach rest env))
    (h : wpG M A (eval e env) (fun v s₁ => wpG M A (spliced (backTo pos (starEach rest env))) (fun vs s₂ => Q (v :: vs) s₂) E s₁) E s) : wpG M A (spliced (backTo pos (starEach (e :: rest) env))) Q E s := by
  rw [he]
  exact gSplicedCons h
end
end
section -- P1
set_option maxHeartbeats 4000000
/-! the matcher, as a plain function -/
noncomputable def fin (m : Sre.M) : Sre.M := m.runFor 4000
noncomputable def nextP (code text : Array Nat) (start lim : Nat) (must : Bool) : Option (Option (Nat × Nat)) :=
  match (fin (Sre.forSearch code text 0 start lim must)).outcome with
  | some .matched => some (some ((fin (Sre.forSearch code text 0 start lim must)).start, (fin (Sre.forSearch code text 0 start lim must)).handed))
  | some .failed => some none
  | _ => none
inductive Piece where
  | cut (b e : Nat)
  | repl
  deriving DecidableEq
noncomputable def loopP (code text : Array Nat) (lim : Nat) : (fuel : Nat) → (done start : Nat) → (must : Bool) → Option (List Piece)
  | 0, _, _, _ => none
  | f + 1, done, start, must => match nextP code text start lim must with
    | none => none
    | some none => some (if done < lim then [.cut done lim] else [])
    | some (some (b, h)) => (loopP code text lim f h h (h == b)).map fun r => (if done < b then [.cut done b] else []) ++ .repl :: r
noncomputable def code42 : Array Nat := #[14, 8, 1, 2, 4294967295, 1, 1, 34, 0, 16, 34, 28, 22, 0, 4294967295, 7, 11, 13, 7, 21, 16, 34, 16, 92, 0, 15, 8, 6, 16, 92, 2, 15, 2, 0, 1, 16, 34, 1]
noncomputable def code55 : Array Nat := #[14, 4, 0, 0, 0, 6, 1, 5, 5, 0, 6, 6, 1, 1]
/-! ## the matcher's drive -/
theorem runFor_done (m : Sre.M) (h : m.outcome.isSome = true) : ∀ n, m.runFor n = m
  | 0 => rfl
  | n + 1 => by unfold Sre.M.runFor; rw [if_pos h]
theorem runFor_add (b : Nat) : ∀ (a : Nat) (m : Sre.M), m.runFor (a + b) = (m.runFor a).runFor b
  | 0, m => by rw [Nat.zero_add]; rfl
  | a + 1, m => by
    by_cases h : m.outcome.isSome = true
    · rw [runFor_done m h, runFor_done m h, runFor_done m h]
    · rw [show a + 1 + b = (a + b) + 1 by omega]
      show (if m.outcome.isSome then m else Sre.M.runFor (a + b) m.step) = (if m.outcome.isSome then m else Sre.M.runFor a m.step).runFor b
      rw [if_neg h, if_neg h]
      exact runFor_add b a m.step
section
variable {M : Model} {A : Around} {E : Value → Shared → Prop} {s : Shared}
theorem wp_reDrive : ∀ (k r : Nat) (m : Sre.M) {Q : Sre.M → Shared → Prop}, (m.runFor (4 * k)).outcome.isSome = true → Q (m.runFor (4 * k)) s → 0 < k → wpAny M A (Builtin.Re.reDrive (k + r) m) Q E s
  | 0, r, m, Q, ho, hq, hk => absurd hk (Nat.lt_irrefl 0)
  | k + 1, r, m, Q, ho, hq, _ => by
    rw [show k + 1 + r = (k + r) + 1 by omega]
    have e : m.runFor (4 * (k + 1)) = (m.runFor 4).runFor (4 * k) := by rw [show 4 * (k + 1) = 4 + 4 * k by omega, runFor_add]
    show wpAny M A (if (m.runFor 4).outcome.isSome then pure (m.runFor 4) else do rule "sre.turn"; Builtin.Re.reDrive (k + r) (m.runFor 4)) Q E s
    by_cases h : (m.runFor 4).outcome.isSome = true
    · rw [if_pos h]
      rw [e, runFor_done _ h] at hq
      exact wpAny_pure hq
    · rw [if_neg h]
      rw [e] at ho hq
      cases k with
      | zero => exact absurd ho h
      | succ k => exact wpAny_bind (wpAny_rule (wp_reDrive (k + 1) r _ ho hq (Nat.succ_pos k)))
theorem wp_tags {c : Nat → Bool} {g : Nat → String} {Q : PUnit → Shared → Prop} : ∀ l : List Nat, Q ⟨⟩ s → wpAny M A (forIn l PUnit.unit fun i _ => if c i = true then do rule (g i); pure (ForInStep.yield PUnit.unit) else pure (ForInStep.yield PUnit.unit)) Q E s
  | [], hq => wpAny_pure hq
  | i :: l, hq => by
    rw [List.forIn_cons]
    refine wpAny_bind ?_
    by_cases h : c i = true
    · rw [if_pos h]; exact wpAny_bind (wpAny_rule (wpAny_pure (wp_tags l hq)))
    · rw [if_neg h]; exact wpAny_pure (wp_tags l hq)
theorem wp_reRunToEnd {m : Sre.M} {Q : Option Sre.M → Shared → Prop} {b : Bool} (ho : (fin m).outcome = some (if b then .matched else .failed)) (hq : Q (if b then some (fin m) else none) s) :
    wpAny M A (Builtin.Re.reRunToEnd m) Q E s := by
  unfold Builtin.Re.reRunToEnd
  refine wpAny_bind ?_
  rw [show (2 ^ 64 : Nat) = 1000 + (2 ^ 64 - 1000) by decide]
  refine wp_reDrive 1000 (2 ^ 64 - 1000) m (Q := _) (by show (fin m).outcome.isSome = true; rw [ho]; cases b <;> rfl) ?_ (by decide)
  show wpAny M A _ Q E s
  refine wpAny_bind (wp_tags _ ?_)
  show wpAny M A (match (fin m).outcome with | some .matched => pure (some (fin m)) | some .failed => pure none | some (.stuck why) => unsupported s!"_sre:{why}" | none => unsupported "internal:sre:no-outcome") Q E s
  rw [ho]
  cases b with
  | true => exact wpAny_pure hq
  | false => exact wpAny_pure hq
end
/-! ## the loop of sub -/
noncomputable def cutVal (kind : Nat) (text : Array Nat) (b e : Nat) (tk : Tok) : Value := if kind == 0 then .str ⟨text.extract b e⟩ tk else .bytes ((text.extract b e).map (·.toUInt8)) tk
inductive PiecesAre (kind : Nat) (text : Array Nat) (repl : Value) : List Piece → List Value → Prop where
  | nil : PiecesAre kind text repl [] []
  | cut {b e tk ps vs} : PiecesAre kind text repl ps vs → PiecesAre kind text repl (.cut b e :: ps) (cutVal kind text b e tk :: vs)
  | repl {ps vs} : PiecesAre kind text repl ps vs → PiecesAre kind text repl (.repl :: ps) (repl :: vs)
theorem PiecesAre.append {kind : Nat} {text : Array Nat} {repl : Value} : ∀ {ps vs ps' vs'}, PiecesAre kind text repl ps vs → PiecesAre kind text repl ps' vs' → PiecesAre kind text repl (ps ++ ps') (vs ++ vs') := by
  intro ps vs ps' vs' a h
  induction a with
  | nil => exact h
  | cut _ ih => exact .cut ih
  | repl _ ih => exact .repl ih
structure Tgt (M : Model) (h₀ : Heap) (p str repl : Value) (code text : Array Nat) (kind : Nat) : Prop where
  tgt : Looks M h₀ (Builtin.Re.reWholeTarget p str) { pattern := p, string := str, code, text, kind, groups := 0, pos := 0, lim := text.size }
  lit : Looks M h₀ (Builtin.Re.reLiteralCannotBeTurned repl) ()
  nn : (repl != .none) = true
  small : text.size ≤ 1000
section
variable {prog : Program} {w : World} {A : Around} {E : Value → Shared → Prop} {s : Shared} {M : Model}
theorem wp_next {t : Builtin.Re.ReTarget} {start : Nat} {must : Bool} {r : Option (Nat × Nat)} {Q : Option Sre.M → Shared → Prop} (hg : t.groups = 0) (h : nextP t.code t.text start t.lim must = some r)
    (hq : match r with | none => Q none s | some bh => ∀ m : Sre.M, m.start = bh.1 → m.handed = bh.2 → Q (some m) s) : wpAny M A (Builtin.Re.reNextFound t start must) Q E s := by
  unfold nextP at h
  unfold Builtin.Re.reNextFound
  rw [hg]
  split at h
  · rename_i ho
    cases h
    exact wp_reRunToEnd (b := true) ho (hq _ rfl rfl)
  · rename_i ho
    cases h
    exact wp_reRunToEnd (b := false) ho hq
  · cases h
theorem extract_le (t : Array Nat) (b e : Nat) : (t.extract b e).size ≤ t.size := by rw [Array.size_extract]; exact Nat.le_trans (Nat.sub_le _ _) (Nat.min_le_right _ _)
theorem wp_reSlice {kind : Nat} {text : Array Nat} {b e : Nat} {Q : Value → Shared → Prop} (hs : text.size ≤ 1000) (hq : ∀ tk tk', Q (cutVal kind text b e tk) { s with toks := tk' }) :
    wpAny M A (Builtin.Re.reSlice text kind b e) Q E s := by
  have h1 := extract_le text b e
  have hl : (1000 : Nat) ≤ sizeLine := Nat.le_of_ble_eq_true (by decide +kernel)
  unfold Builtin.Re.reSlice cutVal at *
  by_cases hk : (kind == 0) = true
  · rw [if_pos hk]
    simp only [hk, if_true] at hq
    unfold mkStr
    rw [if_neg (by show ¬ (text.extract b e).size > sizeLine; omega)]
    exact wpAny_bind (wpAny_fresh (wpAny_pure (hq _ _)))
  · rw [if_neg hk]
    simp only [hk, if_false] at hq
    unfold mkBytes
    rw [if_neg (by rw [Array.size_map]; omega)]
    exact wpAny_bind (wpAny_fresh (wpAny_pure (hq _ _)))
theorem ent_loop : entryFor table "re.Pattern.sub.loop" = some Builtin.«re.Pattern.sub.loop» := entryFor_of_tree (by kernel_rfl)
theorem plain_loop : plainId "re.Pattern.sub.loop" = true := by decide +kernel
noncomputable abbrev joinEnd (kind : Nat) (text : Array Nat) (D : Addr) : Sem Fin := do
    let joiner ← Builtin.Re.reSlice text kind 0 0
    let text ← if ((← seqItems? (.ref D)).getD #[]).isEmpty then pure joiner
      else call (.builtin (if kind == 0 then "str.join" else "bytes.join")) [joiner, .ref D]
    ret text
theorem only_push {h : Heap} {D : Addr} {arr : Array Value} {n : Nat} (hD : h.get? D = some { cls := .type "list", data := .seq arr n }) (v : Value) :
    (h.update D (Obj.mapSeq (·.push v))).get? D = some { cls := .type "list", data := .seq (arr.push v) (n + 1) } ∧ ∀ b o, b ≠ D → h.get? b = some o → (h.update D (Obj.mapSeq (·.push v))).get? b = some o := by
  refine ⟨?_, fun b o hb e => (Heap.get?_update_ne _ _ _ _ hb).trans e⟩
  rw [Heap.get?_update_self _ hD rfl]
  simp [Obj.mapSeq]
theorem sub_loop {p str repl : Value} {code text : Array Nat} {kind : Nat} {h₀ : Heap} {D : Addr} (T : Tgt (model prog w) h₀ p str repl code text kind) {R : Result → Shared → Prop} :
    ∀ (f n done start : Nat) (must : Bool) (arr : Array Value) (ep : Nat) (s : Shared) (ps : List Piece),
    loopP code text text.size f done start must = some ps → (∀ b o, h₀.get? b = some o → s.heap.get? b = some o) → h₀.get? D = none → s.heap.get? D = some { cls := .type "list", data := .seq arr ep } → arr.size + 2 * f ≤ 1000 →
    (∀ vs h' ep' tk, PiecesAre kind text repl ps vs → (∀ b o, b ≠ D → s.heap.get? b = some o → h'.get? b = some o) → h'.get? D = some { cls := .type "list", data := .seq (arr ++ vs.toArray) ep' } →
      wpAny (model prog w) A.in1 (joinEnd kind text D) (fun fin s' => match fin with | .done f => R (.ok f) s' | .again c' => c'.quiet = true ∧ codeAny (model prog w) A c' R s') (fun e s' => R (.error e) s') { s with heap := h', toks := tk }) →
    codeAny (model prog w) A (.builtin "re.Pattern.sub.loop" ⟨[p, str, repl, rawInt 0, rawInt 0, rawInt n, rawInt done, rawInt start, .bool must, .ref D, .bool false], []⟩) R s
  | 0, _, _, _, _, _, _, _, _, h, _, _, _, _, _ => by cases h
  | f + 1, n, done, start, must, arr, ep, s, ps, h, hk, hD₀, hD, hz, hend => by
    have hl : (1000 : Nat) ≤ sizeLine := Nat.le_of_ble_eq_true (by decide +kernel)
    refine codeAny_builtin ent_loop ?_
    rw [Around.under_plainId plain_loop]
    unfold Builtin.«re.Pattern.sub.loop»
    dsimp only [rawInt]
    refine wpAny_bind (T.tgt _ _ _ _ hk ?_)
    rw [if_pos (show ((0 : Int) == 0) = true from rfl)]
    refine wpAny_bind (T.lit _ _ _ _ hk ?_)
    refine wpAny_bind ?_
    rw [if_neg (show ¬ ((0 : Int) != 0 && decide ((n : Int) ≥ 0)) = true by simp)]
    unfold loopP at h
    split at h
    · cases h
    · rename_i hn
      cases h
      refine wp_next rfl (by rw [Int.toNat_natCast]; exact hn) ?_
      dsimp only
      rw [Int.toNat_natCast]
      by_cases hlt : done < text.size
      · rw [if_pos hlt]
        rw [if_pos hlt] at hend
        refine wpAny_bind (wp_reSlice T.small fun tk tk' => ?_)
        obtain ⟨u1, u2⟩ := only_push hD (cutVal kind text done text.size tk)
        refine wpAny_bind (wpAny_updateSeq hD rfl ?_ (by omega) (by rw [Array.size_push]; omega))
        have := hend [cutVal kind text done text.size tk] _ (ep + 1) tk' (.cut .nil) u2 (by rw [u1]; simp)
        exact this
      · rw [if_neg hlt]
        rw [if_neg hlt] at hend
        have := hend [] s.heap ep s.toks .nil (fun b o _ e => e) (by rw [hD]; simp)
        exact this
    · rename_i b hd hn
      obtain ⟨r, hr, rfl⟩ := Option.map_eq_some_iff.mp h
      refine wp_next rfl (by rw [Int.toNat_natCast]; exact hn) ?_
      intro m hm1 hm2
      dsimp only at hm1 hm2 ⊢
      subst hm1 hm2
      rw [Int.toNat_natCast]
      have behind : ∀ (s₂ : Shared) (arr₂ : Array Value) (ep₂ : Nat) (vs₁ : List Value), (∀ b o, b ≠ D → s.heap.get? b = some o → s₂.heap.get? b = some o) → s₂ = { s with heap := s₂.heap, toks := s₂.toks } →
          s₂.heap.get? D = some { cls := .type "list", data := .seq arr₂ ep₂ } → arr₂ = arr ++ vs₁.toArray → arr₂.size + 2 * f + 1 ≤ 1000 → PiecesAre kind text repl (if done < m.start then [.cut done m.start] else []) vs₁ →
          wpAny (model prog w) A.in1 (if ((0 : Int) == 0) = true then do
              let item ← pure repl
              if (item != Value.none) = true then do
                  updateSeq D fun x => x.push item
                  again (Code.builtin "re.Pattern.sub.loop" { pos := [p, str, repl, Value.int 0 0, Value.int 0 0, Value.int (↑n + 1) 0, Value.int (↑m.handed) 0, Value.int (↑m.handed) 0, Value.bool (m.handed == m.start), Value.ref D, Value.bool false] })
                else again (Code.builtin "re.Pattern.sub.loop" { pos := [p, str, repl, Value.int 0 0, Value.int 0 0, Value.int (↑n + 1) 0, Value.int (↑m.handed) 0, Value.int (↑m.handed) 0, Value.bool (m.handed == m.start), Value.ref D, Value.bool false] })
            else unsupported "x") (fun fin s' => match fin with | .done f => R (.ok f) s' | .again c' => c'.quiet = true ∧ codeAny (model prog w) A c' R s') (fun e s' => R (.error e) s') s₂ := by
        intro s₂ arr₂ ep₂ vs₁ hk₂ he hD₂ ha hz₂ hp₁
        rw [if_pos (show ((0 : Int) == 0) = true from rfl)]
        refine wpAny_bind (wpAny_pure ?_)
        rw [if_pos T.nn]
        obtain ⟨u1, u2⟩ := only_push hD₂ repl
        refine wpAny_bind (wpAny_updateSeq hD₂ rfl ?_ (by omega) (by rw [Array.size_push]; omega))
        refine wpAny_pure (And.intro (plainId_quiet plain_loop _) ?_)
        have ne : ∀ b o, h₀.get? b = some o → b ≠ D := fun b o e q => by rw [q, hD₀] at e; cases e
        refine sub_loop T f (n + 1) m.handed m.handed (m.handed == m.start) (arr₂.push repl) (ep₂ + 1) _ r hr (fun b o e => u2 b o (ne b o e) (hk₂ b o (ne b o e) (hk b o e))) hD₀ u1 (by rw [Array.size_push]; omega) fun vs h' ep' tk hp hk' hD' => ?_
        have := hend (vs₁ ++ repl :: vs) h' ep' tk (hp₁.append (.repl hp)) (fun b o hb e => hk' b o hb (u2 b o hb (hk₂ b o hb e))) (by rw [hD', ha]; simp)
        rw [he]
        exact this
      by_cases hlt : done < m.start
      · rw [if_pos hlt]
        refine wpAny_bind (wp_reSlice T.small fun tk tk' => ?_)
        obtain ⟨u1, u2⟩ := only_push hD (cutVal kind text done m.start tk)
        refine wpAny_bind (wpAny_updateSeq hD rfl ?_ (by omega) (by rw [Array.size_push]; omega))
        exact behind _ _ _ [cutVal kind text done m.start tk] u2 rfl u1 (by simp) (by rw [Array.size_push]; omega) (by rw [if_pos hlt]; exact .cut .nil)
      · rw [if_neg hlt]
        exact behind s arr ep [] (fun b o _ e => e) rfl hD (by simp) (by omega) (by rw [if_neg hlt]; exact .nil)
theorem slot_pat_sub : Slot "re.Pattern" "sub" "re.Pattern.sub" := .of (owner := "re.Pattern") (n := "sub") (by rw [typeLookup_type, builtinLookup_eq_fast]; kernel_rfl) (by decide +kernel) (by decide +kernel) (by decide +kernel)
  (by first | exact .inl (by decide +kernel) | exact .inr (by decide +kernel)) (by rw [isSubtype_type]; kernel_rfl)
theorem pa_pat : PlainAttrs "re.Pattern" := ⟨⟨"object.__getattribute__", by rw [typeLookup_type, builtinLookup_eq_fast]; kernel_rfl, by decide +kernel⟩, by rw [typeLookup_type, builtinLookup_eq_fast]; kernel_rfl⟩
theorem ty_pat_sub : typeOf (.builtin "re.Pattern.sub") = pure (.type "method_descriptor") := by show builtinType _ = _; rw [builtinType_eq_fast]; kernel_rfl
theorem ent_pat_sub : entryFor table "re.Pattern.sub" = some Builtin.«re.Pattern.sub» := entryFor_of_tree (by kernel_rfl)
theorem args_pat_sub (a b c : Value) : argsOk "re.Pattern.sub" ⟨[a, b, c], []⟩ := by unfold argsOk; kernel_rfl
theorem named_sub (a b : Value) : Builtin.Re.reNamed "re.Pattern.sub" "sub" ["repl", "string", "count"] 2 [a, b] [] = pure [some a, some b, none] := by kernel_rfl
theorem no_call_bytes (b : Array UInt8) (t : Tok) : specialOf (.bytes b t) "__call__" = pure none := by
  show (do typeLookup (← typeOf (.bytes b t)) "__call__") = _
  show typeLookup (.type "bytes") "__call__" = _
  rw [typeLookup_type, builtinLookup_eq_fast]; kernel_rfl
theorem no_call_str (b : Str) (t : Tok) : specialOf (.str b t) "__call__" = pure none := by
  show typeLookup (.type "str") "__call__" = _
  rw [typeLookup_type, builtinLookup_eq_fast]; kernel_rfl
theorem call_sub {p : Addr} {str repl : Value} {code text : Array Nat} {kind : Nat} {h₀ : Heap} {ps : List Piece} {op : Obj} (T : Tgt (model prog w) h₀ (.ref p) str repl code text kind) (hp : h₀.get? p = some op) (hpc : op.cls = .type "re.Pattern")
    (hcall : specialOf repl "__call__" = pure none)
    (hlit : (∃ x, Looks (model prog w) h₀ (asStr? repl) (some x) ∧ (!x.cps.contains 92) = true) ∨ (Looks (model prog w) h₀ (asStr? repl) none ∧ ∃ b, Looks (model prog w) h₀ (Builtin.Bytes.bufferQuiet? "re.Pattern.sub" repl) (some b) ∧ (!b.contains 92) = true))
    (hl : loopP code text text.size 400 0 0 false = some ps) (hk : ∀ b o, h₀.get? b = some o → s.heap.get? b = some o) {Q : Value → Shared → Prop}
    (hend : ∀ D vs h' ep' tk jt, PiecesAre kind text repl ps vs → s.heap.get? D = none → (∀ b o, s.heap.get? b = some o → h'.get? b = some o) → h'.get? D = some { cls := .type "list", data := .seq vs.toArray ep' } →
      if vs.isEmpty = true then Q (cutVal kind text 0 0 jt) { s with heap := h', toks := tk } else wpAny (model prog w) A.in1 (call (.builtin (if kind == 0 then "str.join" else "bytes.join")) [cutVal kind text 0 0 jt, .ref D]) Q E { s with heap := h', toks := tk }) :
    wpAny (model prog w) A (call (.builtin "re.Pattern.sub") [.ref p, repl, str]) Q E s := by
  have hT : s.TypeIs (.ref p) "re.Pattern" := ⟨op, hk _ _ hp, hpc⟩
  refine wpAny_call (codeAny_call_builtin slot_pat_sub.plain ent_pat_sub (slot_pat_sub.check _ _ _ _ _ _ _ _ hT (args_pat_sub _ _ _) ?_))
  unfold Builtin.«re.Pattern.sub» Builtin.Re.reSubstitute
  dsimp only
  rw [named_sub]
  refine wpAny_bind (wpAny_pure ?_)
  dsimp only
  refine wpAny_bind (wpAny_pure ?_)
  rw [hcall]
  refine wpAny_bind (wpAny_pure ?_)
  rw [if_neg (by decide)]
  have joins : ∀ (s₂ : Shared) (D : Addr) (vs : List Value) (ep : Nat), s₂.heap.get? D = some { cls := .type "list", data := .seq vs.toArray ep } →
      (∀ jt tk, if vs.isEmpty = true then Q (cutVal kind text 0 0 jt) { s₂ with toks := tk } else wpAny (model prog w) A.in1 (call (.builtin (if kind == 0 then "str.join" else "bytes.join")) [cutVal kind text 0 0 jt, .ref D]) Q E { s₂ with toks := tk }) →
      wpAny (model prog w) A.in1 (joinEnd kind text D) (fun fin s' => match fin with | .done f => wants Q E (.ok f) s' | .again c' => c'.quiet = true ∧ codeAny (model prog w) A c' (wants Q E) s') (fun e s' => wants Q E (.error e) s') s₂ := by
    intro s₂ D vs ep hD h
    refine wpAny_bind (wp_reSlice T.small fun tk tk' => ?_)
    have h := h tk tk'
    unfold seqItems?
    refine wpAny_bind (wpAny_bind (wpAny_load hD (wpAny_pure ?_)))
    cases vs with
    | nil => exact wpAny_bind (wpAny_pure (wpAny_pure h))
    | cons v vs =>
      rw [if_neg (by simp)] at h
      exact wpAny_bind (wpAny_mono h (fun v s' hq => wpAny_pure hq) fun _ _ x => x)
  have behind : wpAny (model prog w) A.in1 (do
      let __x ← (pure (repl, (0 : Int)) : Sem (Value × Int))
      let _ ← holding [__x.fst] (Builtin.Re.reWholeTarget (Value.ref p) str)
      if (__x.snd == 1) = true then do
          Builtin.Re.reNotHeld "re.Pattern.sub" str
          let __do_lift ← newList []
          again (Code.builtin "re.Pattern.sub.loop" { pos := [Value.ref p, str, __x.fst, rawInt __x.snd, rawInt 0, rawInt 0, rawInt 0, rawInt 0, Value.bool false, __do_lift, Value.bool false] })
        else do
          let __do_lift ← newList []
          again (Code.builtin "re.Pattern.sub.loop" { pos := [Value.ref p, str, __x.fst, rawInt __x.snd, rawInt 0, rawInt 0, rawInt 0, rawInt 0, Value.bool false, __do_lift, Value.bool false] }))
      (fun fin s' => match fin with | .done f => wants Q E (.ok f) s' | .again c' => c'.quiet = true ∧ codeAny (model prog w) A c' (wants Q E) s') (fun e s' => wants Q E (.error e) s') s := by
    refine wpAny_bind (wpAny_pure ?_)
    refine wpAny_bind (wpAny_holding (T.tgt _ _ _ _ hk ?_))
    dsimp only
    rw [if_neg (by decide)]
    refine wpAny_bind (wpAny_newObj_type ?_ (by size_fits))
    refine wpAny_pure (And.intro (plainId_quiet plain_loop _) ?_)
    have hfr : s.heap.get? s.heap.objs.size = none := by
      cases q : s.heap.get? s.heap.objs.size with
      | none => rfl
      | some o => exact absurd (Heap.lt_size q) (Nat.lt_irrefl _)
    have hfr₀ : h₀.get? s.heap.objs.size = none := by
      cases q : h₀.get? s.heap.objs.size with
      | none => rfl
      | some o => rw [hk _ _ q] at hfr; cases hfr
    refine sub_loop T 400 0 0 0 false #[] 0 _ ps hl (fun b o e => Heap.get?_push_of_some _ (hk b o e)) hfr₀ (Heap.get?_push_size _ rfl) (by decide) fun vs h' ep' tk hp' hk' hD' => ?_
    exact joins _ _ vs ep' (by rw [hD']; simp) fun jt tk => hend _ vs h' ep' tk jt hp' hfr (fun b o e => hk' b o (fun q => by rw [q, hfr] at e; cases e) (Heap.get?_push_of_some _ e)) (by rw [hD']; simp)
  rcases hlit with ⟨x, hx, h92⟩ | ⟨hx, b, hb, h92⟩
  · refine wpAny_bind (hx _ _ _ _ hk ?_)
    dsimp only
    refine wpAny_bind (wpAny_pure ?_)
    rw [if_neg (by decide), if_pos h92]
    exact behind
  · refine wpAny_bind (hx _ _ _ _ hk ?_)
    dsimp only
    refine wpAny_bind (hb _ _ _ _ hk ?_)
    dsimp only
    refine wpAny_bind (wpAny_pure ?_)
    rw [if_neg (by decide), if_pos h92]
    exact behind
end
end
section -- P3
set_option maxHeartbeats 4000000
section
variable {w : World} {h₀ : Heap}
noncomputable abbrev pat43 : Obj := { cls := .type "re.Pattern", data := .fields #[.bytes #[34, 40, 63, 58, 91, 94, 34, 92, 92, 93, 124, 92, 92, 46, 41, 42, 43, 34] 292, .int 0 333, .int 0 0, .none, .none, .ref 42, .int 1 0] }
theorem look43 : (hd.heap_1 w.params).lookup 43 = some pat43 := by kernel_rfl
theorem tgt43 (X : (hd.heap_1 w.params).In h₀) (b : Array UInt8) (tb : Tok) (t0 : Tok) (hs : b.size ≤ 1000) : Tgt (model PySem.Challenge.rw_xo0029_01.row.prog w) h₀ (.ref 43) (.bytes b tb) (.bytes #[] t0) code42 (b.map (·.toNat)) 1 where
  tgt := Looks.of_peek X (by kernel_rfl)
  lit := Looks.of_peek X (by kernel_rfl)
  nn := by rfl
  small := by rw [Array.size_map]; exact hs
end
section
variable {prog : Program} {w : World} {A : Around} {E : Value → Shared → Prop} {M : Model}
theorem slot_bjoin : Slot "bytes" "join" "bytes.join" := .of (owner := "bytes") (n := "join") (by rw [typeLookup_type, builtinLookup_eq_fast]; kernel_rfl) (by decide +kernel) (by decide +kernel) (by decide +kernel)
  (by first | exact .inl (by decide +kernel) | exact .inr (by decide +kernel)) (by rw [isSubtype_type]; kernel_rfl)
theorem ent_bjoin : entryFor table "bytes.join" = some Builtin.«bytes.join» := entryFor_of_tree (by kernel_rfl)
theorem args_bjoin (a b : Value) : argsOk "bytes.join" ⟨[a, b], []⟩ := by unfold argsOk; kernel_rfl
theorem take_bytes {h : Heap} (id : String) (b : Array UInt8) (t : Tok) : Looks M h (Builtin.Bytes.takeBufferQuiet? id (.bytes b t) 0) (some (b, none)) := Looks.of_peek (K := []) (by intro a o e; cases e) (by kernel_rfl)
theorem take_val {h : Heap} {id : String} {v : Value} {b : Array UInt8} {t : Tok} (hv : v = .bytes b t) : Looks M h (Builtin.Bytes.takeBufferQuiet? id v 0) (some (b, none)) := by subst hv; exact take_bytes id b t
inductive BytesAre : List Value → List (Array UInt8) → Prop
  | nil : BytesAre [] []
  | cons (b : Array UInt8) (t : Tok) {vs : List Value} {bs : List (Array UInt8)} (h : BytesAre vs bs) : BytesAre (.bytes b t :: vs) (b :: bs)
theorem BytesAre.len {vs : List Value} {bs : List (Array UInt8)} (h : BytesAre vs bs) : vs.length = bs.length := by
  induction h with
  | nil => rfl
  | cons b t _ ih => rw [List.length_cons, List.length_cons, ih]
theorem BytesAre.get {vs : List Value} {bs : List (Array UInt8)} (h : BytesAre vs bs) : ∀ {j : Nat}, j < vs.length → ∃ b t, vs[j]? = some (.bytes b t) ∧ bs[j]? = some b := by
  induction h with
  | nil => intro j hj; cases hj
  | cons b t _ ih =>
    intro j hj
    cases j with
    | zero => exact ⟨b, t, rfl, rfl⟩
    | succ j => exact ih (Nat.lt_of_succ_lt_succ hj)
theorem BytesAre.getE {P : Prop} {vs : List Value} {bs : List (Array UInt8)} (h : BytesAre vs bs) {j : Nat} (hj : j < vs.length) (k : ∀ b t, vs[j]? = some (.bytes b t) → bs[j]? = some b → P) : P := by
  obtain ⟨b, t, h1, h2⟩ := h.get hj
  exact k b t h1 h2
theorem BytesAre.off {vs : List Value} {bs : List (Array UInt8)} (h : BytesAre vs bs) : ∀ j, ((vs.take j).map fun v => (v, (none : Option Value))).any (fun x => x.1.onHeap) = false := by
  induction h with
  | nil => intro j; rw [List.take_nil]; rfl
  | cons b t _ ih =>
    intro j
    cases j with
    | zero => rfl
    | succ j => exact ih j
theorem letGo_bytes {vs : List Value} {bs : List (Array UInt8)} {s : Shared} (h : BytesAre vs bs) : ∀ (keep : List Value) {Q : Unit → Shared → Prop} {E : Value → Shared → Prop}, Q () s → wpAny M A (Builtin.Bytes.joinLetGo (vs.map fun v => (v, (none : Option Value))) keep) Q E s := by
  induction h with
  | nil => intro keep Q E hq; exact wpAny_pure hq
  | cons b t _ ih =>
    intro keep Q E hq
    show wpAny _ _ (Builtin.Bytes.joinLetGo ((_, _) :: _) _) _ _ _
    unfold Builtin.Bytes.joinLetGo
    repeat (first | ((with_reducible show wpAny _ _ (Builtin.Bytes.joinLetGo _ _) _ _ _); exact ih keep hq) | lk)
theorem wp_range {σ : Type} {s : Shared} {f : Nat → σ → Sem (ForInStep σ)} {st : Nat → σ} {Q : σ → Shared → Prop} {E : Value → Shared → Prop} : ∀ (n i : Nat), (∀ j, i ≤ j → j < i + n → ∀ {Q' : ForInStep σ → Shared → Prop}, Q' (.yield (st (j + 1))) s → wpAny M A (f j (st j)) Q' E s) → Q (st (i + n)) s → wpAny M A (forIn (List.range' i n 1) (st i) f) Q E s
  | 0, i, _, hq => wpAny_pure hq
  | n + 1, i, h, hq => by
    rw [List.range'_succ, List.forIn_cons]
    refine wpAny_bind (h i (Nat.le_refl _) (Nat.lt_add_of_pos_right (Nat.succ_pos _)) ?_)
    exact wp_range n (i + 1) (fun j h1 h2 => h j (Nat.le_of_succ_le h1) (by omega)) (by rw [show i + 1 + n = i + (n + 1) by omega]; exact hq)
noncomputable def Hold (p : Prop) : Prop := p
theorem unhold {p : Prop} (h : Hold p) : p := h
theorem joinN {D : Addr} {v1 v2 : Value} {vr : List Value} {bs : List (Array UInt8)} {sep : Array UInt8} {ts : Tok} {ep : Nat} {h : Heap} {g : Array GenState} {d : Drawn} {tk : Nat} {os : OsState} {Q : Value → Shared → Prop} (hB : BytesAre (v1 :: v2 :: vr) bs) (hD : h.get? D = some { cls := .type "list", data := .seq (v1 :: v2 :: vr).toArray ep })
    (hs : sep = #[]) {r : Array UInt8} (hr : Builtin.Bytes.joined #[] bs = r) (hz : r.size ≤ 1000) (hf : bs.foldl (· + ·.size) 0 ≤ 1000) (hq : ∀ t tk', Q (.bytes r t) ⟨h, g, d, tk', os⟩) : wpAny (model prog w) A (call (.builtin "bytes.join") [.bytes sep ts, .ref D]) Q E ⟨h, g, d, tk, os⟩ := by
  subst hs
  have hl : (1000 : Nat) ≤ sizeLine := Nat.le_of_ble_eq_true (by decide +kernel)
  refine wpAny_call (codeAny_call_builtin slot_bjoin.plain ent_bjoin (slot_bjoin.check _ _ _ _ _ _ _ _ (typeIs_bytes _ _ _) (args_bjoin _ _) ?_))
  unfold Builtin.«bytes.join» Builtin.Bytes.joinM
  repeat (first | ((with_reducible show wpAny _ _ (forIn (List.range' _ _ _) _ _) _ _ _); refine unhold ?_) | rw [Std.Legacy.Range.forIn_eq_forIn_range'] | lk)
  unfold Hold
  refine wp_range (st := fun j => ((bs.take j).toArray, ((v1 :: v2 :: vr).take j).map fun v => (v, (none : Option Value)))) _ 0 (fun j _ hj Q' hQ => ?_) ?_
  · refine hB.getE (j := j) (by simpa [Std.Legacy.Range.size] using hj) fun b t e1 e2 => ?_
    clear hj
    dsimp only
    rw [List.take_add_one, List.take_add_one, e1, e2, Option.toList_some, Option.toList_some, List.map_append, ← List.push_toArray] at hQ
    have e3 : (v1 :: v2 :: vr).toArray.getD j .none = .bytes b t := by
      rw [Array.getD_eq_getD_getElem?, List.getElem?_toArray, e1]; rfl
    have e4 := hB.off j
    clear hq hf hz hr
    generalize (v1 :: v2 :: vr).toArray = arr at *
    generalize (bs.take j).toArray = acc at *
    generalize List.map _ (List.take j (v1 :: v2 :: vr)) = held at *
    repeat lk
    rw [e3, if_neg (by rw [e4]; decide)]
    repeat (first | ((with_reducible show wpAny _ _ (Builtin.Bytes.takeBufferQuiet? _ _ _) _ _ _); refine Looks.at (take_bytes _ _ _) ?_) | lk)
    rw [if_neg (by simp)]
    exact wpAny_pure hQ
  · dsimp only
    have el : (0 : Nat) + Std.Legacy.Range.size { start := 0, stop := (v1 :: v2 :: vr).toArray.size, step := 1, step_pos := Nat.one_pos } = (v1 :: v2 :: vr).length := by simp [Std.Legacy.Range.size]
    rw [el, List.take_length, hB.len, List.take_length]
    repeat lk
    rw [if_neg (by simp [Builtin.Bytes.tooLong]; omega)]
    show wpAny _ _ (mkBytes (Builtin.Bytes.joined #[] bs) >>= _) _ _ _
    rw [hr]
    refine wpAny_bind ?_
    unfold mkBytes
    rw [if_neg (by omega)]
    refine wpAny_bind (wpAny_fresh (wpAny_pure ?_))
    repeat (first | ((with_reducible show wpAny _ _ (Builtin.Bytes.joinLetGo _ _) _ _ _); refine letGo_bytes hB _ ?_) | lk)
    exact hq _ _
end
section
variable {w : World} {A : Around} {E : Value → Shared → Prop} {s : Shared} {h₀ : Heap} {L : Addr} {m : Str → Option Value} {news : List (Addr × Obj)} {Q : Value → Shared → Prop}
noncomputable def pieceB (text : Array Nat) : Piece → Array UInt8
  | .cut b e => (text.extract b e).map (·.toUInt8)
  | .repl => #[]
theorem pieces_bytes {text : Array Nat} {t0 : Tok} {ps : List Piece} {vs : List Value} (h : PiecesAre 1 text (.bytes #[] t0) ps vs) : BytesAre vs (ps.map (pieceB text)) := by
  induction h with
  | nil => exact .nil
  | cut h ih => exact .cons _ _ ih
  | repl h ih => exact .cons _ _ ih
theorem pieceB_size (text : Array Nat) (p : Piece) : (pieceB text p).size ≤ text.size := by
  cases p with
  | cut b e => show ((text.extract b e).map _).size ≤ _; rw [Array.size_map]; exact extract_le text b e
  | repl => exact Nat.zero_le _
theorem bytes_two {vs : List Value} {a b : Array UInt8} {r : List (Array UInt8)} (h : BytesAre vs (a :: b :: r)) : ∃ v1 v2 vr, vs = v1 :: v2 :: vr := by
  cases h with
  | cons _ _ h => cases h with
    | cons _ _ _ => exact ⟨_, _, _, rfl⟩
theorem m_subN {b : Array UInt8} {tb t0 : Tok} {p1 p2 : Piece} {pr : List Piece} (F : Fr h₀ L s.heap m) (X : (hd.heap_1 w.params).In h₀) (N : News h₀ L s.heap news) (hz : b.size ≤ 100) (hl : loopP code42 (b.map (·.toNat)) (b.map (·.toNat)).size 400 0 0 false = some (p1 :: p2 :: pr))
    {r : Array UInt8} (hr : Builtin.Bytes.joined #[] ((p1 :: p2 :: pr).map (pieceB (b.map (·.toNat)))) = r) (hrz : r.size ≤ 1000) (hf : ((p1 :: p2 :: pr).map (pieceB (b.map (·.toNat)))).foldl (· + ·.size) 0 ≤ 1000)
    (h : ∀ t h' tk, Fr h₀ L h' m → News h₀ L h' news → Q (.bytes r t) { s with heap := h', toks := tk }) :
    wpAny (model PySem.Challenge.rw_xo0029_01.row.prog w) A (call (.builtin "re.Pattern.sub") [.ref 43, .bytes #[] t0, .bytes b tb]) Q E s := by
  refine call_sub (tgt43 X b tb t0 (by omega)) (X _ _ look43) rfl (no_call_bytes _ _) (.inr ⟨Looks.of_peek (K := []) (by intro a o e; cases e) (by kernel_rfl), #[], Looks.of_peek (K := []) (by intro a o e; cases e) (by kernel_rfl), by simp⟩) hl F.keep fun D vs h' ep' tk jt hp hD hk hD' => ?_
  have hB := pieces_bytes hp
  obtain ⟨v1, v2, vr, rfl⟩ := bytes_two hB
  rw [if_neg (by simp)]
  exact joinN hB hD' (by simp) hr hrz hf fun t tk' => h t h' tk' (F.grownK hk) (N.grown hk)
theorem m_sub2 {b : Array UInt8} {tb t0 : Tok} {p1 p2 : Piece} (F : Fr h₀ L s.heap m) (X : (hd.heap_1 w.params).In h₀) (N : News h₀ L s.heap news) (hz : b.size ≤ 100) (hl : loopP code42 (b.map (·.toNat)) (b.map (·.toNat)).size 400 0 0 false = some [p1, p2])
    (h : ∀ t h' tk, Fr h₀ L h' m → News h₀ L h' news → Q (.bytes (pieceB (b.map (·.toNat)) p1 ++ pieceB (b.map (·.toNat)) p2) t) { s with heap := h', toks := tk }) :
    wpAny (model PySem.Challenge.rw_xo0029_01.row.prog w) A (call (.builtin "re.Pattern.sub") [.ref 43, .bytes #[] t0, .bytes b tb]) Q E s := by
  have z1 := pieceB_size (b.map (·.toNat)) p1
  have z2 := pieceB_size (b.map (·.toNat)) p2
  rw [Array.size_map] at z1 z2
  exact m_subN F X N hz hl (by simp [Builtin.Bytes.joined]) (by rw [Array.size_append]; omega) (by simp only [List.map_cons, List.map_nil, List.foldl_cons, List.foldl_nil]; omega) h
theorem m_sub3 {b : Array UInt8} {tb t0 : Tok} {p1 p2 p3 : Piece} (F : Fr h₀ L s.heap m) (X : (hd.heap_1 w.params).In h₀) (N : News h₀ L s.heap news) (hz : b.size ≤ 100) (hl : loopP code42 (b.map (·.toNat)) (b.map (·.toNat)).size 400 0 0 false = some [p1, p2, p3])
    (h : ∀ t h' tk, Fr h₀ L h' m → News h₀ L h' news → Q (.bytes (pieceB (b.map (·.toNat)) p1 ++ pieceB (b.map (·.toNat)) p2 ++ pieceB (b.map (·.toNat)) p3) t) { s with heap := h', toks := tk }) :
    wpAny (model PySem.Challenge.rw_xo0029_01.row.prog w) A (call (.builtin "re.Pattern.sub") [.ref 43, .bytes #[] t0, .bytes b tb]) Q E s := by
  have z1 := pieceB_size (b.map (·.toNat)) p1
  have z2 := pieceB_size (b.map (·.toNat)) p2
  have z3 := pieceB_size (b.map (·.toNat)) p3
  rw [Array.size_map] at z1 z2 z3
  exact m_subN F X N hz hl (by simp [Builtin.Bytes.joined]) (by rw [Array.size_append, Array.size_append]; omega) (by simp only [List.map_cons, List.map_nil, List.foldl_cons, List.foldl_nil]; omega) h
theorem slot_bcount : Slot "bytes" "count" "bytes.count" := .of (owner := "bytes") (n := "count") (by rw [typeLookup_type, builtinLookup_eq_fast]; kernel_rfl) (by decide +kernel) (by decide +kernel) (by decide +kernel)
  (by first | exact .inl (by decide +kernel) | exact .inr (by decide +kernel)) (by rw [isSubtype_type]; kernel_rfl)
theorem ent_bcount : entryFor table "bytes.count" = some Builtin.«bytes.count» := entryFor_of_tree (by kernel_rfl)
theorem args_bcount (a b : Value) : argsOk "bytes.count" ⟨[a, b], []⟩ := by unfold argsOk; kernel_rfl
theorem m_count {prog : Program} {b c : Array UInt8} {tb tc : Tok} {lo hi : Nat} (hp : ∀ S, peek [] S (Builtin.Bytes.searchArgs .bytes "count" ⟨[.bytes b tb, .bytes c tc], []⟩) = some (b, c, some (lo, hi))) (hc : c.isEmpty = false)
    (h : Q (.int ((Builtin.Bytes.occurrences b c lo hi).length : Nat) s.toks) { s with toks := s.toks + 1 }) :
    wpAny (model prog w) A (call (.builtin "bytes.count") [.bytes b tb, .bytes c tc]) Q E s := by
  refine wpAny_call (codeAny_call_builtin slot_bcount.plain ent_bcount (slot_bcount.check _ _ _ _ _ _ _ _ (typeIs_bytes _ _ _) (args_bcount _ _) ?_))
  unfold Builtin.«bytes.count» Builtin.Bytes.countM
  refine wpAny_bind (Looks.here (Looks.of_peek (K := []) (by intro a o e; cases e) (hp _)) ?_)
  dsimp only
  rw [if_neg (by rw [hc]; decide)]
  exact wpAny_bind (wpAny_mkInt (wpAny_pure h))
end
end
section -- P4
set_option maxHeartbeats 4000000
section
variable {prog : Program} {w : World} {A : Around} {E : Value → Shared → Prop} {s : Shared}
theorem words_P4_1 : True := by
  k_with_none
  w_top off
  k_with "m_enter" => ((
  (have Xᵥ := Base.K (by assumption)); (have Tᵥ := Base.T (by assumption)); revert Tᵥ; revert Xᵥ; k_fill; intro _ _
  k_dflt (refine' enter0 ?k1ᵥ ?k2ᵥ ?k3ᵥ ?k4ᵥ ?k5ᵥ ?k6ᵥ ?k7ᵥ ?k8ᵥ ?k9ᵥ ?k10ᵥ ?_; (case k1ᵥ => assumption); (case k2ᵥ => exact Room.depth (by assumption)); (case k3ᵥ => k_is); (case k4ᵥ => k_is); (case k5ᵥ => first | exact BindsTo.of_eq rfl | exact binds_K (by k_in) rfl (by k_is) rfl rfl rfl | fail "m_enter: no rule for these arguments"); (case k6ᵥ => exact locs rfl); (case k7ᵥ => decide); (case k8ᵥ => exact rfl); (case k9ᵥ => exact rfl); (case k10ᵥ => exact rfl); k_whole; intro _ _ _ _; (try dsimp only); (try k_fold))))
  trivial
theorem m_getsub {M : Model} {p : Addr} {o : Obj} {h₀ : Heap} {L : Addr} {m : Str → Option Value} {pl : Sem Bool} {Q : Value × List Value → Shared → Prop} (F : Fr h₀ L s.heap m) (ho : h₀.get? p = some o) (hc : o.cls = .type "re.Pattern") (hd : o.dict = none) (h : Q (.builtin "re.Pattern.sub", [.ref p]) s) : wpAny M A (getMethod (.ref p) "sub" pl) Q E s :=
  getMethod_builtin (⟨o, F.keep _ _ ho, hc⟩ : s.TypeIs (.ref p) "re.Pattern") pa_pat slot_pat_sub ty_pat_sub (fun a e => ⟨o, by injection e with e; subst e; exact F.keep _ _ ho, hd⟩) h
theorem ty_bcount : typeOf (.builtin "bytes.count") = pure (.type "method_descriptor") := by show builtinType _ = _; rw [builtinType_eq_fast]; kernel_rfl
theorem m_getcount {M : Model} {b : Array UInt8} {t : Tok} {pl : Sem Bool} {Q : Value × List Value → Shared → Prop} (h : Q (.builtin "bytes.count", [.bytes b t]) s) : wpAny M A (getMethod (.bytes b t) "count" pl) Q E s :=
  getMethod_builtin (typeIs_bytes _ _ _) FB.plainAttrs_bytes slot_bcount ty_bcount (fun _ e => nomatch e) h
end
noncomputable def glue (text : Array Nat) : List Piece → Array UInt8
  | [p1, p2] => pieceB text p1 ++ pieceB text p2
  | [p1, p2, p3] => pieceB text p1 ++ pieceB text p2 ++ pieceB text p3
  | _ => #[]
noncomputable def cutOf (b : Array UInt8) : Option (Array UInt8) :=
  match loopP code42 (b.map (·.toNat)) (b.map (·.toNat)).size 400 0 0 false with
  | some [p1, p2] => some (glue (b.map (·.toNat)) [p1, p2])
  | some [p1, p2, p3] => some (glue (b.map (·.toNat)) [p1, p2, p3])
  | _ => none
theorem words_P4_2 : True := by
  k_with "getMethod ref" => (((with_reducible show wpAny _ _ (getMethod (Value.ref _) (PySem.Str.ofString "sub") _) _ _ _); refine m_getsub (by k_asm) (Base.K (by assumption) _ _ look43) rfl rfl ?_))
  k_with "getMethod bytes" => ((with_reducible refine m_getcount ?_))
  trivial
theorem m_sub {w : World} {A : Around} {E : Value → Shared → Prop} {s : Shared} {h₀ : Heap} {L : Addr} {m : Str → Option Value} {news : List (Addr × Obj)} {Q : Value → Shared → Prop} {b q : Array UInt8} {tb t0 : Tok} (F : Fr h₀ L s.heap m) (X : (hd.heap_1 w.params).In h₀) (N : News h₀ L s.heap news) (hz : b.size ≤ 100) (hl : cutOf b = some q)
    (h : ∀ t h' tk, Fr h₀ L h' m → News h₀ L h' news → Q (.bytes q t) { s with heap := h', toks := tk }) :
    wpAny (model PySem.Challenge.rw_xo0029_01.row.prog w) A (call (.builtin "re.Pattern.sub") [.ref 43, .bytes #[] t0, .bytes b tb]) Q E s := by
  unfold cutOf at hl
  split at hl
  · rename_i e; cases hl; exact m_sub2 F X N hz e h
  · rename_i e; cases hl; exact m_sub3 F X N hz e h
  · cases hl
noncomputable def cnt (q : Array UInt8) (c : UInt8) : Nat := (Builtin.Bytes.occurrences q #[c] 0 q.size).length
theorem peek_cnt (b : Array UInt8) (c : UInt8) (tb tc : Tok) (hb : 1 ≤ b.size) (S) : peek [] S (Builtin.Bytes.searchArgs .bytes "count" ⟨[.bytes b tb, .bytes #[c] tc], []⟩) = some (b, #[c], some (0, b.size)) := by
  have e : peek [] S (Builtin.Bytes.searchArgs .bytes "count" ⟨[.bytes b tb, .bytes #[c] tc], []⟩) = some (b, #[c], if (Builtin.Bytes.window b.size none none).2 - (Builtin.Bytes.window b.size none none).1 < ((#[c] : Array UInt8).size : Int) then none else some ((Builtin.Bytes.window b.size none none).1.toNat, (Builtin.Bytes.window b.size none none).2.toNat)) := by kernel_rfl
  have hw : Builtin.Bytes.window b.size none none = ((0 : Int), (b.size : Int)) := by unfold Builtin.Bytes.window; simp; rw [if_neg (by omega)]; omega
  rw [e, hw]
  rw [if_neg (by show ¬ ((b.size : Int) - 0 < ((1 : Nat) : Int)); omega)]
  rfl
theorem m_cnt {prog : Program} {w : World} {A : Around} {E : Value → Shared → Prop} {s : Shared} {Q : Value → Shared → Prop} {b : Array UInt8} {c : UInt8} {tb tc : Tok} (hb : 1 ≤ b.size)
    (h : Q (.int (cnt b c : Nat) s.toks) { s with toks := s.toks + 1 }) :
    wpAny (model prog w) A (call (.builtin "bytes.count") [.bytes b tb, .bytes #[c] tc]) Q E s :=
  m_count (fun S => peek_cnt b c tb tc hb S) rfl h
theorem words_P4_3 : True := by
  k_with "call builtin:bytes.count" => ((refine m_cnt (by assumption) ?_))
  k_with "call builtin:re.Pattern.sub" => ((refine m_sub (by k_asm) (by k_asm) (by k_asm) (by assumption) (by assumption) ?_; intro _ _ _ _ _; (try k_sweep)))
  trivial
theorem fn_pd (w : World) (mean : ExcName → Option Value) (mg mb : Str → Option Value) (b q : Array UInt8) (tb : Tok) (hz : b.size ≤ 100) (hl : cutOf b = some q) (hq : 1 ≤ q.size) :
   Fn w mean mg mb 10 51 [.bytes b tb] (fun _ => True) (fun h v h' => ∃ t, v = .int (0 + (cnt q 40 : Int) - (cnt q 41 : Int)) t) := by
  refine Fn.intro fun dp fr gd un g gs dr tk os Q E r B hp ret => ?_
  walk_at "m_enter"
  k_steps
  exact ret _ _ _ (Fr.keep (by assumption)) ⟨_, rfl⟩
end
section -- P5
theorem words_P5_0 : True := by
  k_with_none
  w_top off
  trivial
set_option maxHeartbeats 4000000
section
open Builtin
noncomputable def enc (x : Str) : Array UInt8 := (x.cps.toList.map (·.toUInt8)).toArray
noncomputable def asc (x : Str) : Bool := x.cps.toList.all (· < 128)
theorem forIn_two {σ : Type} {f : Nat → σ → Sem (ForInStep σ)} {s0 s1 s2 : σ} {r : Std.Legacy.Range} {n : Nat} (hr : List.range' r.start r.size r.step = 0 :: 1 :: List.range' 2 n) (h1 : f 0 s0 = pure (.yield s1)) (h2 : f 1 s1 = pure (.done s2)) : forIn r s0 f = pure s2 := by
  rw [Std.Legacy.Range.forIn_eq_forIn_range', hr, List.forIn_cons, h1]
  show (forIn (1 :: List.range' 2 n) s1 f : Sem σ) = _
  rw [List.forIn_cons, h2]
  rfl
theorem enc_fold (l : List Nat) : Array.foldl (fun acc y => acc ++ (_codecs.asciiCodec.bytesOf y).toArray) #[] l.toArray = (l.map (·.toUInt8)).toArray := by
  have : ∀ (l : List Nat) (acc : Array UInt8), List.foldl (fun acc y => acc ++ (_codecs.asciiCodec.bytesOf y).toArray) acc l = acc ++ (l.map (·.toUInt8)).toArray := by
    intro l
    induction l with
    | nil => intro acc; simp
    | cons a l ih => intro acc; rw [List.foldl_cons, ih]; show acc ++ [a.toUInt8].toArray ++ _ = _; simp
  rw [← Array.foldl_toList, this]
  simp
theorem narrow (id : String) (self : Value) (x : Str) (h2 : 2 ≤ x.cps.size) (h3 : x.cps.size ≤ 1000) (ha : asc x = true) : _codecs.encodeNarrow id _codecs.asciiCodec none self x = pure (enc x) := by
  have hes : (enc x).size = x.cps.size := by simp [enc]
  have hz1 : ¬ (enc x).size > sizeLine := by rw [hes]; have hl : (1000 : Nat) ≤ sizeLine := Nat.le_of_ble_eq_true (by decide +kernel); omega
  have hall : ∀ y ∈ x.cps, _codecs.asciiCodec.bad y = false := fun y hy => by
    have := List.all_eq_true.1 ha y (Array.mem_toList_iff.2 hy)
    exact decide_eq_false (Nat.not_le.mpr (of_decide_eq_true this))
  have hex : x.cps.extract 0 x.cps.size = x.cps := Array.extract_size
  have hfi : Array.findIdx? _codecs.asciiCodec.bad x.cps = none := Array.findIdx?_eq_none_iff.mpr hall
  have hfold : Array.foldl (fun acc y => acc ++ (_codecs.asciiCodec.bytesOf y).toArray) #[] x.cps = enc x := enc_fold x.cps.toList
  have hb0 : (!_codecs.asciiCodec.bad x.cps[0]) = true := by rw [hall _ (Array.getElem_mem _)]; rfl
  have hz0 : ¬ (#[] : Array UInt8).size > sizeLine := Nat.not_lt_zero _
  have h0 : x.cps[0]? = some x.cps[0] := Array.getElem?_eq_getElem _
  have hn : x.cps[x.cps.size]? = none := Array.getElem?_eq_none (Nat.le_refl _)
  have hrg : List.range' 0 (Std.Legacy.Range.size { start := 0, stop := Str.length x, step := 1, step_pos := Nat.one_pos }) 1 = 0 :: 1 :: List.range' 2 (x.cps.size - 2) := by
    rw [show Std.Legacy.Range.size { start := 0, stop := Str.length x, step := 1, step_pos := Nat.one_pos } = (x.cps.size - 2) + 2 by simp [Std.Legacy.Range.size]; show x.cps.size = _; omega]
    rfl
  unfold _codecs.encodeNarrow
  refine (congrArg (fun t => t >>= _) (forIn_two (s1 := (0 + x.cps.size, enc x, ({} : _codecs.Faults))) (s2 := (0 + x.cps.size, enc x, ({} : _codecs.Faults))) hrg ?_ ?_)).trans ?_
  · dsimp only
    rw [if_neg hz0, h0]
    dsimp only
    rw [if_pos hb0, hex, hfi]
    dsimp only [Option.getD_none]
    rw [hex, hfold]
  · dsimp only
    rw [if_neg hz1, Nat.zero_add, hn]
  · rfl
theorem enc_entry (x : Str) (t t2 : Tok) : «str.encode» ⟨[.str x t, .str (Str.ofString "ascii") t2], []⟩ = (do ret (← (do mkBytes (← _codecs.encodeNarrow "str.encode" _codecs.asciiCodec none (.str x t) x)))) := by kernel_rfl
theorem m_enc {prog : Program} {w : World} {A : Around} {E : Value → Shared → Prop} {s : Shared} {Q : Value → Shared → Prop} {x : Str} {t t2 : Tok} (h2 : 2 ≤ x.cps.size) (h3 : x.cps.size ≤ 1000) (ha : asc x = true)
    (h : ∀ t tk, Q (.bytes (enc x) t) { s with toks := tk }) :
    wpAny (model prog w) A (call (.builtin "str.encode") [.str x t, .str (Str.ofString "ascii") t2]) Q E s := by
  have hes : (enc x).size = x.cps.size := by simp [enc]
  have hl : (1000 : Nat) ≤ sizeLine := Nat.le_of_ble_eq_true (by decide +kernel)
  refine wpAny_call (codeAny_call_builtin F.slot_str_encode.plain F.entry_str_encode (F.slot_str_encode.check _ _ _ _ _ _ _ _ (typeIs_str _ _ _) (F.args_str_encode_2 _ _) ?_))
  rw [enc_entry, narrow _ _ _ h2 h3 ha]
  refine wpAny_bind (wpAny_bind (wpAny_pure ?_))
  unfold mkBytes
  rw [if_neg (by omega)]
  refine wpAny_bind (wpAny_fresh (wpAny_pure ?_))
  repeat lk
  exact h _ _
theorem m_getenc {M : Model} {s : Shared} {x : Str} {t : Tok} {pl : Sem Bool} {A : Around} {E : Value → Shared → Prop} {Q : Value × List Value → Shared → Prop} (h : Q (.builtin "str.encode", [.str x t]) s) : wpAny M A (getMethod (.str x t) "encode" pl) Q E s :=
  getMethod_builtin (typeIs_str _ _ _) F.plainAttrs_str F.slot_str_encode F.type_str_encode (fun _ e => nomatch e) h
end
end
section -- TD
set_option maxHeartbeats 4000000
noncomputable def okB (b : Array UInt8) : Bool := match cutOf b with | some q => decide (1 ≤ q.size) | none => false
noncomputable def dep (b : Array UInt8) : Int := match cutOf b with | some q => 0 + (cnt q 40 : Int) - (cnt q 41 : Int) | none => 0
theorem fn_dep (w : World) (mean : ExcName → Option Value) (mg mb : Str → Option Value) (b : Array UInt8) (tb : Tok) (hz : b.size ≤ 100) (ho : okB b = true) :
   Fn w mean mg mb 10 51 [.bytes b tb] (fun _ => True) (fun _ v _ => ∃ t, v = .int (dep b) t) := by
  unfold okB at ho
  unfold dep
  cases e : cutOf b with
  | none => rw [e] at ho; cases ho
  | some q => rw [e] at ho; exact fn_pd w mean mg mb b q tb hz e (of_decide_eq_true ho)
section
variable {w : World} {mean : ExcName → Option Value} {mg mb : Str → Option Value} {A : Around} {s : Shared} {Q E : Value → Shared → Prop} {h₀ : Heap} {L : Addr} {m : Str → Option Value} {news : List (Addr × Obj)} {d : Nat} {f : Addr} {vs : List Value} {P : Heap → Prop} {R : Heap → Value → Heap → Prop}
theorem callFn (hf : Fn w mean mg mb d f vs P R) (r : Room A d) (B : Base w mean mg mb h₀) (F : Fr h₀ L s.heap m) (N : News h₀ L s.heap news) (hp : P s.heap)
    (h : ∀ v h' tk, R s.heap v h' → Fr h₀ L h' m → News h₀ L h' news → Grows s.heap h' → Q v { s with heap := h', toks := tk }) : wpAny (model PySem.Challenge.rw_xo0029_01.row.prog w) A (call (.ref f) vs) Q E s :=
  hf A s Q E r (B.keeps F.keep) hp fun v h' tk hk hR => h v h' tk hR (F.grownK hk) (N.grown hk) hk
theorem callFnG (hf : FnG w mean mg mb d f vs P R) (r : Room A d) (B : Base w mean mg mb h₀) (F : Fr h₀ L s.heap m) (N : News h₀ L s.heap news) (hp : P s.heap)
    (h : ∀ v h' tk, R s.heap v h' → Fr h₀ L h' m → News h₀ L h' news → Grows s.heap h' → Q v { s with heap := h', toks := tk }) : wpG (model PySem.Challenge.rw_xo0029_01.row.prog w) A (call (.ref f) vs) Q E s :=
  hf A s Q E r (B.keeps F.keep) hp fun v h' tk hk hR => h v h' tk hR (F.grownK hk) (N.grown hk) hk
end
theorem upLe {k a n m : Nat} (h : a + n ≤ m) : k + a + n ≤ k + m := by rw [Nat.add_assoc]; exact Nat.add_le_add_left h k
theorem upLe2 {k a b n m : Nat} (h : a + (b + n) ≤ m) : k + a + b + n ≤ k + m := by rw [Nat.add_assoc, Nat.add_assoc]; exact Nat.add_le_add_left h k
theorem roomUp {A A' : Around} {d e : Nat} (r : Room A d) (hh : A'.handled = none) (hd : A'.depth + e ≤ A.depth + d) (hu : A'.units + 10 * e ≤ A.units + 10 * d) : Room A' e := ⟨hh, by have := r.hd; omega, by have := r.hu; omega⟩
/-- the written list object -/
noncomputable abbrev lst (vs : List Value) : Obj := { cls := .type "list", data := .seq vs.toArray }
/-- what lies above a base heap -/
noncomputable def Above (hb h : Heap) (news : List (Addr × Obj)) : Prop := ∀ p ∈ news, h.get? p.1 = some p.2 ∧ hb.get? p.1 = none
/-- the contract of a call that changes nothing old and reads lists that lie above the base -/
noncomputable abbrev FnN (w : World) (mean : ExcName → Option Value) (mg mb : Str → Option Value) (d : Nat) (f : Addr) (vs : List Value) (news : List (Addr × Obj)) (R : Heap → Heap → Value → Heap → Prop) : Prop :=
  ∀ (A : Around) (s : Shared) (Q E : Value → Shared → Prop) (hb : Heap), Room A d → Base w mean mg mb hb → Grows hb s.heap → hb.objs.size ≤ s.heap.objs.size → Above hb s.heap news → (∀ v h' tk, Grows s.heap h' → R hb s.heap v h' → Q v { s with heap := h', toks := tk }) →
    wpAny (model PySem.Challenge.rw_xo0029_01.row.prog w) A (call (.ref f) vs) Q E s
theorem Fr.lower {hb h h₁ : Heap} {L : Addr} {m : Str → Option Value} (F : Fr h L h₁ m) (hk : Grows hb h) (hz : hb.objs.size ≤ h.objs.size) : Fr hb L h₁ m := ⟨F.ns, fun b o e => F.keep b o (hk b o e), Nat.le_trans hz F.above⟩
theorem News.lower {hb h h₁ : Heap} {L : Addr} {m : Str → Option Value} {news cells : List (Addr × Obj)} (F : Fr h L h₁ m) (N : News h L h₁ cells) (hk : Grows hb h) (ha : Above hb h news) : News hb L h₁ (cells ++ news) := fun p hp => by
  rcases List.mem_append.mp hp with hp | hp
  · obtain ⟨h1, h2, h3⟩ := N p hp
    refine ⟨h1, h2, ?_⟩
    cases e : hb.get? p.1 with
    | none => rfl
    | some o => rw [hk _ _ e] at h3; cases h3
  · obtain ⟨h1, h2⟩ := ha p hp
    exact ⟨F.keep _ _ h1, Nat.ne_of_lt (Nat.lt_of_lt_of_le (Heap.lt_size h1) F.above), h2⟩
section
variable {w : World} {mean : ExcName → Option Value} {mg mb : Str → Option Value} {A : Around} {s : Shared} {Q E : Value → Shared → Prop} {h₀ : Heap} {L : Addr} {m : Str → Option Value} {news ns : List (Addr × Obj)} {d : Nat} {f : Addr} {vs : List Value} {R : Heap → Heap → Value → Heap → Prop}
theorem callFnN (hf : FnN w mean mg mb d f vs ns R) (r : Room A d) (B : Base w mean mg mb h₀) (F : Fr h₀ L s.heap m) (N : News h₀ L s.heap news) (hs : ∀ p ∈ ns, p ∈ news)
    (h : ∀ v h' tk, R h₀ s.heap v h' → Fr h₀ L h' m → News h₀ L h' news → Grows s.heap h' → Q v { s with heap := h', toks := tk }) : wpAny (model PySem.Challenge.rw_xo0029_01.row.prog w) A (call (.ref f) vs) Q E s :=
  hf A s Q E h₀ r B F.keep (Nat.le_of_lt (Nat.lt_of_le_of_lt F.above F.ns.lt)) (fun p hp => ⟨(N p (hs p hp)).1, (N p (hs p hp)).2.2⟩) fun v h' tk hk hR => h v h' tk hR (F.grownK hk) (N.grown hk) hk
end
noncomputable def Stop (p : Prop) : Prop := p
theorem unstop {p : Prop} (h : Stop p) : p := h
theorem News.above {hb h : Heap} {L : Addr} {news : List (Addr × Obj)} (N : News hb L h news) : Above hb h news := fun p hp => ⟨(N p hp).1, (N p hp).2.2⟩
theorem Above.sub {hb h : Heap} {news ns : List (Addr × Obj)} (N : Above hb h news) (hs : ∀ p ∈ ns, p ∈ news) : Above hb h ns := fun p hp => N p (hs p hp)
theorem News.add {h₀ h : Heap} {L : Addr} {m : Str → Option Value} {news ns : List (Addr × Obj)} (F : Fr h₀ L h m) (N : News h₀ L h news) (a : Above h₀ h ns) (hs : ∀ p ∈ ns, ∃ vs, p.2 = lst vs) : News h₀ L h (ns ++ news) := fun p hp => by
  rcases List.mem_append.mp hp with hp | hp
  · obtain ⟨h1, h2⟩ := a p hp
    refine ⟨h1, fun e => ?_, h2⟩
    obtain ⟨vs, e2⟩ := hs p hp
    obtain ⟨o, es, ep, x, hd, _⟩ := F.ns
    rw [e, e2] at h1
    rw [h1] at x
    cases x
    cases hd
  · exact N p hp
theorem News.addNew {h₀ h h' : Heap} {L : Addr} {m : Str → Option Value} {news ns : List (Addr × Obj)} (F : Fr h₀ L h m) (N : News h₀ L h' news) (a : Above h h' ns) : News h₀ L h' (ns ++ news) := fun p hp => by
  rcases List.mem_append.mp hp with hp | hp
  · obtain ⟨h1, h2⟩ := a p hp
    refine ⟨h1, fun e => ?_, ?_⟩
    · obtain ⟨o, es, ep, x, _⟩ := F.ns
      rw [e, x] at h2
      cases h2
    · cases e : h₀.get? p.1 with
      | none => rfl
      | some o => rw [F.keep _ _ e] at h2; cases h2
  · exact N p hp
theorem gCallWithK {w : World} {mean : ExcName → Option Value} {mg mb : Str → Option Value} {A : Around} {s : Shared} {E : Value → Shared → Prop} {h₀ : Heap} {pos : Pos} {a : Addr} {oc : Value} {od : Option Addr} {osl : Array (Option Value)} {fd : FuncData} {first : List Value} {args : List (Bool × Sem Value)} {Q : Value → Shared → Prop}
    (B : Base w mean mg mb h₀) (ho : (hd.heap_1 w.params).lookup a = some ⟨oc, od, .func fd, osl⟩) (hp : args.any (·.1) = false)
    (h : wpG (model PySem.Challenge.rw_xo0029_01.row.prog w) A (evalArgs (.ref a) true args []) (fun x s₁ => Grows h₀ s₁.heap ∧ wpG (model PySem.Challenge.rw_xo0029_01.row.prog w) A (call (.ref a) (first ++ x.pos) x.kw) Q E s₁) E s) :
    wpG (model PySem.Challenge.rw_xo0029_01.row.prog w) A (callWith pos (.ref a) first args []) Q E s :=
  gCallWithF (o := ⟨oc, od, .func fd, osl⟩) (fd := fd) hp (gMono h (fun _ _ x => ⟨⟨x.1 _ _ (B.K _ _ ho), rfl⟩, x.2⟩) fun _ _ x => x)
/-- what is asked of a cell's text -/
structure Cell (x : Str) : Prop where
  sz : x.cps.size = 8
  as : asc x = true
  ok : okB (enc x) = true
theorem Cell.esz {x : Str} (h : Cell x) : (enc x).size = 8 := by simp [enc, h.sz]
/-- what a cell does -/
noncomputable def dpt (x : Str) : Int := dep (enc x)
theorem m_encC {prog : Program} {w : World} {A : Around} {E : Value → Shared → Prop} {s : Shared} {Q : Value → Shared → Prop} {x : Str} {t t2 : Tok} (hc : Cell x)
    (h : ∀ t tk, Q (.bytes (enc x) t) { s with toks := tk }) : wpAny (model prog w) A (call (.builtin "str.encode") [.str x t, .str (Str.ofString "ascii") t2]) Q E s :=
  m_enc (by rw [hc.sz]; decide) (by rw [hc.sz]; decide) hc.as h
theorem fn_dpt (w : World) (mean : ExcName → Option Value) (mg mb : Str → Option Value) (x : Str) (tb : Tok) (hc : Cell x) :
   Fn w mean mg mb 10 51 [.bytes (enc x) tb] (fun _ => True) (fun _ v _ => ∃ t, v = .int (dpt x) t) := fn_dep w mean mg mb _ tb (by rw [hc.esz]; decide) hc.ok
end
section -- L1
set_option maxHeartbeats 4000000
open PyProof.Rows.LCg
section
variable {prog : Program} {w : World} {A : Around} {E : Value → Shared → Prop} {R : Result → Shared → Prop} {s : Shared}
noncomputable abbrev cc (elt iter iter' : Expr) (x : Str) (px : Pos) (y : Str) (py : Pos) (ifs : List Expr) (scope : Scope) (pos : Pos) : Expr := .ListComp elt [⟨.Name x px, iter, [], 0⟩, ⟨.Name y py, iter', ifs, 0⟩] scope pos
theorem cc_turn0 (elt iter iter' : Expr) (x : Str) (px : Pos) (y : Str) (py : Pos) (ifs : List Expr) (scope : Scope) (pos : Pos) (it acc : Value) (env : Env) :
    compTurn (cc elt iter iter' x px y py ifs scope pos) 0 it acc env = (do
      standAt iter.pos
      match ← pyNext it with
      | none => pure (.done .next)
      | some v =>
        letOwnedTupleGo (.Name x px) it v
        assign (.Name x px) env v
        let mut ok := true
        for c in ([] : List Expr) do
          if ok then ok ← isTrue c env (eval c env)
        if ok then
          let xv ← eval iter' env
          standAt iter'.pos
          let xv ← foldedSetIterable iter' env xv
          let _ ← runOwn (.compStart (cc elt iter iter' x px y py ifs scope pos) 1 (← holding [xv] (pyIter xv)) acc env) env
        again (.compLoop (cc elt iter iter' x px y py ifs scope pos) 0 it acc env)) := by rfl
theorem cc_turn1 (elt iter iter' : Expr) (x : Str) (px : Pos) (y : Str) (py : Pos) (ifs : List Expr) (scope : Scope) (pos : Pos) (it acc : Value) (env : Env) :
    compTurn (cc elt iter iter' x px y py ifs scope pos) 1 it acc env = (do
      standAt iter'.pos
      match ← pyNext it with
      | none => pure (.done .next)
      | some v =>
        letOwnedTupleGo (.Name y py) it v
        assign (.Name y py) env v
        let mut ok := true
        for c in ifs do
          if ok then ok ← isTrue c env (eval c env)
        if ok then
          (do let _ ← call (.builtin "list.append") [acc, ← eval elt env])
        again (.compLoop (cc elt iter iter' x px y py ifs scope pos) 1 it acc env)) := by rfl
noncomputable abbrev No : Value → Shared → Prop := fun _ _ => False
theorem cc_loop1 {elt iter iter' : Expr} {x y : Str} {px py : Pos} {ifs : List Expr} {scope : Scope} {pos : Pos} {it acc : Value} {env : Env} (I : Nat → Shared → Prop)
    (turn : ∀ n s, I n s → wpAny (model prog w) A (pyNext it) (fun r s₁ => match r with
      | none => R (.ok .next) s₁
      | some v => wpAny (model prog w) A (assign (.Name y py) env v) (fun _ s₂ =>
          wpAny (model prog w) A (forIn ifs true fun c r => if r = true then do let ok ← isTrue c env (eval c env); pure (ForInStep.yield ok) else pure (ForInStep.yield r)) (fun ok s₃ =>
            if ok = true then wpAny (model prog w) A (eval elt env) (fun x s₄ =>
              wpAny (model prog w) A (call (.builtin "list.append") [acc, x]) (fun _ s₅ => ∃ m, m < n ∧ I m s₅) No s₄) No s₃
            else ∃ m, m < n ∧ I m s₃) No s₂) No s₁) No s)
    (n : Nat) (h : I n s) :
    codeAny (model prog w) A (.compLoop (cc elt iter iter' x px y py ifs scope pos) 1 it acc env) R s := by
  refine codeAny_loop rfl I (fun n s hI => ?_) n h
  show wpAny _ A ((compTurn (cc elt iter iter' x px y py ifs scope pos) 1 it acc env).onRaise (fun x => do noteFrame x env; theTreesLotGoes x)) _ _ s
  refine wpAny_noted (wpAny_mono (E := No) ?_ (fun _ _ q => q) fun _ _ x => x.elim)
  rw [cc_turn1]
  refine wpAny_bind (wpAny_standAt (wpAny_bind (wpAny_mono (turn n s hI) (fun r s₁ h₁ => ?_) fun _ _ h' => h')))
  cases r with
  | none => exact wpAny_pure h₁
  | some v =>
    refine wpAny_bind (wpAny_of_eq (a := ()) rfl ?_)
    refine wpAny_bind (wpAny_mono h₁ (fun _ s₂ h₂ => wpAny_bind (wpAny_mono h₂ (fun ok s₃ h₃ => ?_) fun _ _ h' => h')) fun _ _ h' => h')
    cases ok with
    | false => exact wpAny_pure ⟨rfl, h₃⟩
    | true =>
      exact wpAny_bind (wpAny_bind (wpAny_mono h₃ (fun x s₄ h₄ => wpAny_bind (wpAny_mono h₄ (fun _ s₅ h₅ => wpAny_pure (wpAny_pure ⟨rfl, h₅⟩)) fun _ _ h' => h')) fun _ _ h' => h'))
theorem cc_loop0 {elt iter iter' : Expr} {x y : Str} {px py : Pos} {ifs : List Expr} {scope : Scope} {pos : Pos} {it acc : Value} {env : Env} (hs : ∀ x, foldedSetIterable iter' env x = pure x) (I : Nat → Shared → Prop)
    (turn : ∀ n s, I n s → wpAny (model prog w) A (pyNext it) (fun r s₁ => match r with
      | none => R (.ok .next) s₁
      | some v => wpAny (model prog w) A (assign (.Name x px) env v) (fun _ s₂ =>
          wpAny (model prog w) A (eval iter' env) (fun xv s₃ => wpAny (model prog w) A (pyIter xv) (fun it' s₄ =>
            codeAny (model prog w) A (.compStart (cc elt iter iter' x px y py ifs scope pos) 1 it' acc env) (fun r s₅ => match r with | .ok _ => ∃ m, m < n ∧ I m s₅ | .error _ => False) s₄) No s₃) No s₂) No s₁) No s)
    (n : Nat) (h : I n s) :
    codeAny (model prog w) A (.compLoop (cc elt iter iter' x px y py ifs scope pos) 0 it acc env) R s := by
  refine codeAny_loop rfl I (fun n s hI => ?_) n h
  show wpAny _ A ((compTurn (cc elt iter iter' x px y py ifs scope pos) 0 it acc env).onRaise (fun x => do noteFrame x env; theTreesLotGoes x)) _ _ s
  refine wpAny_noted (wpAny_mono (E := No) ?_ (fun _ _ q => q) fun _ _ x => x.elim)
  rw [cc_turn0]
  refine wpAny_bind (wpAny_standAt (wpAny_bind (wpAny_mono (turn n s hI) (fun r s₁ h₁ => ?_) fun _ _ h' => h')))
  cases r with
  | none => exact wpAny_pure h₁
  | some v =>
    refine wpAny_bind (wpAny_of_eq (a := ()) rfl ?_)
    refine wpAny_bind (wpAny_mono h₁ (fun _ s₂ h₂ => wpAny_bind (wpAny_tests_nil ?_)) fun _ _ h' => h')
    simp only [if_true]
    refine wpAny_bind (wpAny_mono h₂ (fun xv s₃ h₃ => wpAny_bind (wpAny_standAt (wpAny_bind (wpAny_of_eq (hs xv) (wpAny_bind (wpAny_holding (wpAny_mono h₃ (fun it' s₄ h₄ => ?_) fun _ _ h' => h'))))))) fun _ _ h' => h')
    refine wpAny_bind (wpAny_runOwn (codeAny_mono h₄ ?_))
    intro r s₅ hr
    cases r with
    | ok f => exact wpAny_pure ⟨rfl, hr⟩
    | error e => exact hr.elim
theorem cc_start1 {elt iter iter' : Expr} {x y : Str} {px py : Pos} {ifs : List Expr} {scope : Scope} {pos : Pos} {it acc : Value} {env : Env}
    (h0 : codeAny (model prog w) A (.compLoop (cc elt iter iter' x px y py ifs scope pos) 1 it acc env) R s)
    (h : wpAny (model prog w) A (pyIter it) (fun it' s' => codeAny (model prog w) A (.compLoop (cc elt iter iter' x px y py ifs scope pos) 1 it' acc env) R s') No s) :
    codeAny (model prog w) A (.compStart (cc elt iter iter' x px y py ifs scope pos) 1 it acc env) R s := by
  refine codeAny_of_tree ?_
  show wpAny _ _ ((compStart (cc elt iter iter' x px y py ifs scope pos) 1 it acc env).onRaise (fun x => do noteFrame x env; standAt theWindowsPlace)) _ _ s
  refine wpAny_notedAt (wpAny_mono (E := No) ?_ (fun _ _ q => q) fun _ _ x => x.elim)
  unfold compStart
  show wpAny _ _ (ask >>= _) _ _ s
  refine wpAny_bind (wpAny_askSetting (wpAny_ite ?_))
  split
  · first
      | exact wpAny_bind (wpAny_pure (wpAny_pure (And.intro rfl h0)))
      | exact wpAny_pure (And.intro rfl h0)
  · first
      | exact wpAny_bind (wpAny_rule (wpAny_bind (wpAny_standAt (wpAny_bind (wpAny_mono h (fun it' s' h' => wpAny_pure (And.intro rfl h')) fun _ _ x => x)))))
      | (refine wpAny_bind (wpAny_rule ?_); show wpAny _ _ (standAt iter'.pos >>= _) _ _ s; exact wpAny_bind (wpAny_standAt (wpAny_bind (wpAny_mono h (fun it' s' h' => wpAny_pure (And.intro rfl h')) fun _ _ x => x))))
end
inductive End2 (h₀ : Heap) (L : Addr) (m : Str → Option Value) (s₁ : Shared) (J : Addr) (oJ : Obj) (I : Addr) (oI : Obj) (C : Addr) (oC : Obj) (D : Addr) (oD : Obj) (S : List (Addr × Obj) → Prop) (rest : List (Addr × Obj) → Prop) (s₂ : Shared) : Prop
  | mk (h' : Heap) (tk : Nat) (news' : List (Addr × Obj)) (es : s₂ = { s₁ with heap := h', toks := tk }) (F : Fr h₀ L h' m) (N : News h₀ L h' ((J, oJ) :: (I, oI) :: (C, oC) :: (D, oD) :: news')) (off : Off3 I C D news') (offJ : ∀ p ∈ news', p.1 ≠ J) (hS : S news') (r : rest news')
theorem End2.of {h₀ : Heap} {L J I C D : Addr} {m : Str → Option Value} {s₁ : Shared} {oJ oI oC oD : Obj} {S : List (Addr × Obj) → Prop} {rest : List (Addr × Obj) → Prop} {h' : Heap} {tk : Nat} {all : List (Addr × Obj)} (news' : List (Addr × Obj))
    (F : Fr h₀ L h' m) (N : News h₀ L h' all) (sub : ∀ p ∈ (J, oJ) :: (I, oI) :: (C, oC) :: (D, oD) :: news', p ∈ all) (off : Off3 I C D news') (offJ : ∀ p ∈ news', p.1 ≠ J) (hS : S news') (r : rest news') :
    End2 h₀ L m s₁ J oJ I oI C oC D oD S rest { s₁ with heap := h', toks := tk } := ⟨h', tk, news', rfl, F, fun p hp => N p (sub p hp), off, offJ, hS, r⟩
section
variable (prog : Program) (w : World) (A : Around) (h₀ : Heap) (L : Addr) (m : Str → Option Value) (env : Env) (elt iter' : Expr) (x y : Str) (ifs : List Expr) (scope : Scope) (cl : List (Str × Addr)) (s : Shared)
noncomputable def Rest2 (S : List (Addr × Obj) → Prop) (P : Nat → Value → Prop) (v : Value) (Next : List Value → List (Addr × Obj) → Prop) : Nat → Nat → List Value → List (Addr × Obj) → Prop
  | 0, _, ys, news => Next ys news
  | k + 1, j, ys, news => ∀ v' J oJ I oI C oC D m₂ h tk (E' : Value → Shared → Prop), P j v' → NsObj oC m₂ → m₂ x = some v → m₂ y = some v' → Fr h₀ L h m → News h₀ L h ((J, oJ) :: (I, oI) :: (C, oC) :: (D, LCg.lst ys) :: news) → Off3 I C D news → (∀ p ∈ news, p.1 ≠ J) →
      ((@Ne Nat J I) ∧ (@Ne Nat J C) ∧ (@Ne Nat J D) ∧ (@Ne Nat I C) ∧ (@Ne Nat I D) ∧ (@Ne Nat C D)) →
      wpAny (model prog w) A (forIn ifs true fun c r => if r = true then do let ok ← isTrue c (compEnvC scope cl C env) (eval c (compEnvC scope cl C env)); pure (ForInStep.yield ok) else pure (ForInStep.yield r)) (fun ok s' => if ok = true then
        wpAny (model prog w) A (eval elt (compEnvC scope cl C env)) (fun z => End2 h₀ L m { s with heap := h, toks := tk } J oJ I oI C oC D (LCg.lst ys) S (fun news' => Rest2 S P v Next k (j + 1) (ys ++ [z]) news')) E' s'
        else End2 h₀ L m { s with heap := h, toks := tk } J oJ I oI C oC D (LCg.lst ys) S (fun news' => Rest2 S P v Next k (j + 1) ys news') s') E' { s with heap := h, toks := tk }
inductive Src2a (S : List (Addr × Obj) → Prop) (v : Value) (Next : List Value → List (Addr × Obj) → Prop) (ys : List Value) (xv : Value) (h' : Heap) (news' : List (Addr × Obj)) : Prop
  | src (ax : Addr) (its : Array Value) (e1 : xv = .ref ax) (SA : SrcAt h₀ ax its news') (hsz : ys.length + its.size ≤ sizeLine) (R : Rest2 prog w A h₀ L m env elt x y ifs scope cl s (fun nw => SrcAt h₀ ax its nw ∧ S nw) (fun j v' => its[j]? = some v') v Next its.size 0 ys news')
  | rng (r : Addr) (a b : Int) (t u t' : Tok) (n : Nat) (e1 : xv = .ref r) (hr : IsRange h' r a b 1 t u t') (hsm : Builtin.Range.small a b 1 = true) (hn : Builtin.Range.rangeSize a b 1 = ((n : Nat) : Int)) (hsz : ys.length + n ≤ sizeLine) (R : Rest2 prog w A h₀ L m env elt x y ifs scope cl s S (fun j v' => ∃ t, v' = .int (a + (j : Int)) t) v Next n 0 ys news')
inductive Src2 (S : List (Addr × Obj) → Prop) (v : Value) (Next : List Value → List (Addr × Obj) → Prop) (I : Addr) (oI : Obj) (C : Addr) (oC : Obj) (D : Addr) (ys : List Value) (xv : Value) (s₁ : Shared) : Prop
  | mk (h' : Heap) (tk' : Nat) (news' : List (Addr × Obj)) (es : s₁ = { s with heap := h', toks := tk' }) (F : Fr h₀ L h' m) (N : News h₀ L h' ((I, oI) :: (C, oC) :: (D, LCg.lst ys) :: news')) (off : Off3 I C D news') (hS : S news') (src : Src2a prog w A h₀ L m env elt x y ifs scope cl s S v Next ys xv h' news')
noncomputable def Rest1 (S : List (Addr × Obj) → Prop) (P : Nat → Value → Prop) (Fin : List Value → List (Addr × Obj) → Prop) : Nat → Nat → List Value → List (Addr × Obj) → Prop
  | 0, _, ys, news => Fin ys news
  | k + 1, i, ys, news => ∀ v I oI C oC D m₂ h tk (E' : Value → Shared → Prop), P i v → NsObj oC m₂ → m₂ x = some v → Fr h₀ L h m → News h₀ L h ((I, oI) :: (C, oC) :: (D, LCg.lst ys) :: news) → Off3 I C D news → ((@Ne Nat I C) ∧ (@Ne Nat I D) ∧ (@Ne Nat C D)) →
      wpAny (model prog w) A (eval iter' (compEnvC scope cl C env)) (Src2 prog w A h₀ L m env elt x y ifs scope cl s S v (fun ys' news' => Rest1 S P Fin k (i + 1) ys' news') I oI C oC D ys) E' { s with heap := h, toks := tk }
end
section
variable {prog : Program} {w : World} {A : Around} {E : Value → Shared → Prop} {s : Shared} {h₀ : Heap} {L : Addr} {m : Str → Option Value} {env : Env}
inductive InnI (h₀ : Heap) (L : Addr) (m : Str → Option Value) (s₀ : Shared) (x : Str) (v : Value) (n : Nat) (ys : List Value) (St : Nat → Heap → Prop) (S : List (Addr × Obj) → Prop) (I : Addr) (oI : Obj) (C D J : Addr) (Re : Nat → Nat → List Value → List (Addr × Obj) → Prop) (k : Nat) (s' : Shared) : Prop
  | mk (h' : Heap) (tk i : Nat) (ys' : List Value) (oC' : Obj) (m' : Str → Option Value) (news' : List (Addr × Obj)) (es : s' = { s₀ with heap := h', toks := tk }) (hi : i ≤ n) (hk : k = n + 1 - i) (hyl : ys'.length ≤ ys.length + i) (st : St i h') (hoC : NsObj oC' m') (hxv : m' x = some v) (F : Fr h₀ L h' m) (N : News h₀ L h' ((I, oI) :: (C, oC') :: (D, LCg.lst ys') :: news')) (off : Off3 I C D news') (offJ : ∀ p ∈ news', p.1 ≠ J) (hS : S news') (R : Re (n - i) i ys' news')
inductive StpI (h₀ : Heap) (L : Addr) (m : Str → Option Value) (s₀ : Shared) (P : Heap → Prop) (S : List (Addr × Obj) → Prop) (I : Addr) (oI : Obj) (C : Addr) (oC : Obj) (D J : Addr) (ys' : List Value) (rest : List (Addr × Obj) → Prop) (s₅ : Shared) : Prop
  | mk (h₅ : Heap) (tk₅ : Nat) (news₅ : List (Addr × Obj)) (es : s₅ = { s₀ with heap := h₅, toks := tk₅ }) (F : Fr h₀ L h₅ m) (st : P h₅) (zD : h₅.get? D = some (LCg.lst ys')) (N : News h₀ L h₅ ((I, oI) :: (C, oC) :: (D, LCg.lst ys') :: news₅)) (off : Off3 I C D news₅) (offJ : ∀ p ∈ news₅, p.1 ≠ J) (hS : S news₅) (r : rest news₅)
theorem cc_inner {elt iter iter' : Expr} {x y : Str} {px py : Pos} {ifs : List Expr} {scope : Scope} {cl : List (Str × Addr)} {pos : Pos} {s₀ s₂ : Shared} {I C D J : Addr} {oI oC : Obj} {m₂ : Str → Option Value} {v : Value} {fp : List Addr} {n : Nat} {P : Nat → Value → Prop} {St : Nat → Heap → Prop} {S : List (Addr × Obj) → Prop} {ys : List Value} {news : List (Addr × Obj)}
    {Next : List Value → List (Addr × Obj) → Prop} {RR : Result → Shared → Prop}
    (W : Walks prog w A J fp [J] n P St) (hsz : ys.length + n ≤ sizeLine) (hJo : ∀ i h, St i h → ∃ o, h.get? J = some o)
    (hSt : ∀ i h h' o nw, St i h → h.get? J = some o → h'.get? J = some o → (∀ b o, h₀.get? b = some o → h'.get? b = some o) → News h₀ L h' nw → S nw → St i h')
    (hkind : scope.kind = .function) (hy : scope.names.lookup y = some .local) (hxy : (x == y) = false) (hst : St 0 s₂.heap)
    (hCf : C ∉ fp) (hDf : D ∉ fp) (he : ∃ h tk, s₂ = { s₀ with heap := h, toks := tk })
    (F : Fr h₀ L s₂.heap m) (N : News h₀ L s₂.heap ((I, oI) :: (C, oC) :: (D, LCg.lst ys) :: news)) (hoC : NsObj oC m₂) (hxv : m₂ x = some v) (hJL : L ≠ J) (hJ₀ : h₀.get? J = none) (hJI : J ≠ I) (hJC : J ≠ C) (hJD : J ≠ D) (hIC : I ≠ C) (hID : I ≠ D) (hCD : C ≠ D) (off : Off3 I C D news) (offJ : ∀ p ∈ news, p.1 ≠ J) (hS : S news)
    (R : Rest2 prog w A h₀ L m env elt x y ifs scope cl s₀ S P v Next n 0 ys news)
    (hRR : ∀ h tk oC' m' ys' news', NsObj oC' m' → Fr h₀ L h m → News h₀ L h ((I, oI) :: (C, oC') :: (D, LCg.lst ys') :: news') → Off3 I C D news' → S news' → Next ys' news' → RR (.ok .next) { s₀ with heap := h, toks := tk }) :
    codeAny (model prog w) A (.compStart (cc elt iter iter' x px y py ifs scope pos) 1 (.ref J) (.ref D) (compEnvC scope cl C env)) RR s₂ := by
  have loop : codeAny (model prog w) A (.compLoop (cc elt iter iter' x px y py ifs scope pos) 1 (.ref J) (.ref D) (compEnvC scope cl C env)) RR s₂ := by
    refine cc_loop1
      (InnI h₀ L m s₀ x v n ys St S I oI C D J (Rest2 prog w A h₀ L m env elt x y ifs scope cl s₀ S P v Next)) ?_ (n + 1) ?_
    · rintro k s' ⟨h', tk, i, ys', oC', m', news', rfl, hi, rfl, hyl, hst', hoC', hxv', F', N', off', offJ', hS', R'⟩
      by_cases hlt : i < n
      · obtain ⟨j, hj⟩ := Nat.exists_eq_succ_of_ne_zero (Nat.sub_ne_zero_of_lt hlt)
        rw [hj] at R'
        refine W.item i _ _ _ hlt hst' fun v' h₂ tk₂ hPv hst₂ hk₂ => ?_
        have hn' : h'.Ns C m' := hoC'.ns (N' _ (.tail _ (.head _))).1
        have hC₀ : h₀.get? C = none := (N' _ (.tail _ (.head _))).2.2
        have hCL : C ≠ L := (N' _ (.tail _ (.head _))).2.1
        refine wpAny_assign_Name (wpAny_storeName_local (lookup_relabel_local hy) (hn'.at' fun o e => hk₂ _ o (by simpa using Ne.symm hJC) e) (fun h₃ hn₃ hs₃ => ?_) (by simp [compEnvC, relabel, hkind]))
        have hst₃ : St (i + 1) h₃ := W.frame _ _ _ hst₂ fun b hb o e => hs₃.extBut b o (fun q => hCf (by have q' : b = C := q; rw [← q']; exact hb)) e
        obtain ⟨oJ, heJ⟩ := hJo _ _ hst₃
        obtain ⟨oC₃, heC, hoC₃⟩ := ns_obj hn₃
        have F₃ : Fr h₀ L h₃ m := (fr_but F' hk₂ hJL hJ₀).change hs₃ hCL hC₀
        have off3 := off'.mem
        have N₂ : News h₀ L h₂ ((I, oI) :: (C, oC') :: (D, LCg.lst ys') :: news') := news_but N' hk₂ (allC (Ne.symm hJI) (allC (Ne.symm hJC) (allC (Ne.symm hJD) offJ')))
        have keep3 : ∀ p ∈ (I, oI) :: (C, oC') :: (D, LCg.lst ys') :: news', p.1 ≠ C → h₃.get? p.1 = some p.2 ∧ p.1 ≠ L ∧ h₀.get? p.1 = none := fun p hp hne => ⟨hs₃.extBut _ _ hne (N₂ p hp).1, (N₂ p hp).2⟩
        have N₃ : News h₀ L h₃ ((J, oJ) :: (I, oI) :: (C, oC₃) :: (D, LCg.lst ys') :: news') :=
          allC ⟨heJ, Ne.symm hJL, hJ₀⟩ (allC (keep3 _ (.head _) hIC) (allC ⟨heC, hCL, hC₀⟩ (allC (keep3 _ (.tail _ (.tail _ (.head _))) (Ne.symm hCD)) fun p hp => keep3 _ (.tail _ (.tail _ (.tail _ hp))) (off3 p hp).2.1)))
        have hyx : x ≠ y := by intro q; rw [q] at hxy; simp at hxy
        refine wpAny_mono (R' v' J oJ I oI C oC₃ D _ h₃ _ _ hPv hoC₃ (by simp [hyx, hxv']) (by simp) F₃ N₃ off' offJ' ⟨hJI, hJC, hJD, hIC, hID, hCD⟩) (fun ok s₄ h₄ => ?_) fun _ _ e => e
        have step : ∀ {ys'' : List Value} {rest : List (Addr × Obj) → Prop} {s₅ : Shared} {t₅ : Nat}, End2 h₀ L m { s₀ with heap := h₃, toks := t₅ } J oJ I oI C oC₃ D (LCg.lst ys') S rest s₅ →
            StpI h₀ L m s₀ (St (i + 1)) S I oI C oC₃ D J ys' rest s₅ := by
          rintro ys'' rest s₅ t₅ ⟨h₅, tk₅, news₅, rfl, F₅, N₅, off₅, offJ₅, hS₅, r₅⟩
          have zJ := (N₅ (J, oJ) (.head _)).1
          have N₅' : News h₀ L h₅ news₅ := fun p hp => N₅ p (.tail _ (.tail _ (.tail _ (.tail _ hp))))
          exact ⟨h₅, tk₅, news₅, rfl, F₅, hSt _ _ _ _ _ hst₃ heJ zJ F₅.keep N₅' hS₅, (N₅ _ (.tail _ (.tail _ (.tail _ (.head _))))).1, fun p hp => N₅ p (.tail _ hp), off₅, offJ₅, hS₅, r₅⟩
        cases ok with
        | true =>
          simp only [if_true] at h₄ ⊢
          refine wpAny_mono h₄ (fun z s₅ h₅ => ?_) fun _ _ e => e
          obtain ⟨h₅, tk₅, news₅, rfl, F₅, hst₅, zD, N₅, off₅, offJ₅, hS₅, R₅⟩ := step (ys'' := ys') h₅
          refine append_at (hsz := by show ys'.toArray.size ≤ sizeLine; rw [List.size_toArray]; omega) zD fun h₆ hs₆ hD₆ => ?_
          have off4 := off₅.mem
          refine ⟨n + 1 - (i + 1), subA hlt, h₆, tk₅, i + 1, ys' ++ [z], oC₃, _, news₅, rfl, hlt, rfl, by rw [List.length_append, List.length_singleton]; omega, W.frame _ _ _ hst₅ fun b hb o e => hs₆.extBut b o (fun q => hDf (q ▸ hb)) e, hoC₃, by simp [hyx, hxv'],
            F₅.change hs₆ (N₅ _ (.tail _ (.tail _ (.head _)))).2.1 (N₅ _ (.tail _ (.tail _ (.head _)))).2.2, allC ⟨hs₆.extBut _ _ hID (N₅ _ (.head _)).1, (N₅ _ (.head _)).2⟩ (allC ⟨hs₆.extBut _ _ hCD (N₅ _ (.tail _ (.head _))).1, (N₅ _ (.tail _ (.head _))).2⟩ (allC ⟨hD₆.trans (congrArg some (lst_snoc ys' z)), (N₅ _ (.tail _ (.tail _ (.head _)))).2⟩
              fun p hp => ⟨hs₆.extBut _ _ (off4 p hp).2.2 (N₅ p (.tail _ (.tail _ (.tail _ hp)))).1, (N₅ p (.tail _ (.tail _ (.tail _ hp)))).2⟩)), off₅, offJ₅, hS₅, by rw [show n - (i + 1) = j from subB (by assumption)]; exact R₅⟩
        | false =>
          simp only [Bool.false_eq_true, if_false] at h₄ ⊢
          obtain ⟨h₅, tk₅, news₅, rfl, F₅, hst₅, zD, N₅, off₅, offJ₅, hS₅, R₅⟩ := step (ys'' := ys') h₄
          exact ⟨n + 1 - (i + 1), subA hlt, h₅, tk₅, i + 1, ys', oC₃, _, news₅, rfl, hlt, rfl, by omega, hst₅, hoC₃, by simp [hyx, hxv'], F₅, N₅, off₅, offJ₅, hS₅, by rw [show n - (i + 1) = j from subB (by assumption)]; exact R₅⟩
      · obtain rfl : i = n := Nat.le_antisymm hi (Nat.not_lt.mp hlt)
        rw [Nat.sub_self] at R'
        refine W.done _ _ _ hst' fun h₂ tk₂ hk₂ => ?_
        refine hRR h₂ tk₂ oC' m' ys' news' hoC' (fr_but F' hk₂ hJL hJ₀) (news_but N' hk₂ (allC (Ne.symm hJI) (allC (Ne.symm hJC) (allC (Ne.symm hJD) offJ')))) off' hS' R'
    · obtain ⟨h, tk, rfl⟩ := he
      exact ⟨h, tk, 0, ys, oC, m₂, news, rfl, Nat.zero_le _, rfl, by omega, hst, hoC, hxv, F, N, off, offJ, hS, R⟩
  exact cc_start1 loop (W.self 0 _ _ _ hst loop)
end
section
variable {prog : Program} {w : World} {A : Around} {E : Value → Shared → Prop} {s : Shared} {h₀ : Heap} {L : Addr} {m : Str → Option Value} {env : Env}
theorem cc_run {elt iter iter' : Expr} {x y : Str} {px py : Pos} {ifs : List Expr} {scope : Scope} {cl : List (Str × Addr)} {pos : Pos} {s₀ s₂ : Shared} {I C D : Addr} {oI oC : Obj} {m₂ : Str → Option Value} {v xv : Value} {S : List (Addr × Obj) → Prop} {ys : List Value}
    {Next : List Value → List (Addr × Obj) → Prop} {RR : Result → Shared → Prop} (hh : A.handled = none)
    (hkind : scope.kind = .function) (hy : scope.names.lookup y = some .local) (hxy : (x == y) = false) (hoC : NsObj oC m₂) (hxv : m₂ x = some v) (hIC : I ≠ C) (hID : I ≠ D) (hCD : C ≠ D)
    (R : Src2 prog w A h₀ L m env elt x y ifs scope cl s₀ S v Next I oI C oC D ys xv s₂)
    (hRR : ∀ h tk oC' m' ys' news', NsObj oC' m' → Fr h₀ L h m → News h₀ L h ((I, oI) :: (C, oC') :: (D, LCg.lst ys') :: news') → Off3 I C D news' → S news' → Next ys' news' → RR (.ok .next) { s₀ with heap := h, toks := tk }) :
    wpAny (model prog w) A (pyIter xv) (fun it' s₄ => codeAny (model prog w) A (.compStart (cc elt iter iter' x px y py ifs scope pos) 1 it' (.ref D) (compEnvC scope cl C env)) RR s₄) No s₂ := by
  obtain ⟨h', tk', news', rfl, F, N, off, hS, src⟩ := R
  have lt : ∀ p ∈ (I, oI) :: (C, oC) :: (D, LCg.lst ys) :: news', p.1 < h'.objs.size := fun p hp => Heap.lt_size (N p hp).1
  have ne : ∀ p ∈ (I, oI) :: (C, oC) :: (D, LCg.lst ys) :: news', h'.objs.size ≠ p.1 := fun p hp => Ne.symm (Nat.ne_of_lt (lt p hp))
  have hC₀ : h₀.get? C = none := (N _ (.tail _ (.head _))).2.2
  have hD₀ : h₀.get? D = none := (N _ (.tail _ (.tail _ (.head _)))).2.2
  have off3 := off.mem
  rcases src with ⟨ax, its, rfl, SA, hsz, R2⟩ | ⟨r, a, b, t, u, t', n, rfl, hr, hsm, hn, hsz, R2⟩
  · have hl := SA.list F.keep fun p hp => N p (.tail _ (.tail _ (.tail _ hp)))
    have hlt : ax < h'.objs.size := by obtain ⟨_, e, _⟩ := hl; exact Heap.lt_size e
    have hap : ∀ c, h₀.get? c = none → (∀ p ∈ news', p.1 ≠ c) → ax ≠ c := by
      intro c hc hn e
      subst e
      rcases SA with ⟨o, e, _⟩ | ⟨o, hm, _⟩
      · rw [hc] at e; cases e
      · exact hn _ hm rfl
    refine wpAny_pyIter_list hl ?_
    have up : ∀ b o, h'.get? b = some o → (h'.push { cls := .type "list_iterator", data := .fields #[.ref ax, .int 0 0] }).get? b = some o := fun b o e => Heap.get?_push_of_some _ e
    refine cc_inner (s₀ := s₀) (m₂ := m₂) (v := v) (S := fun nw => SrcAt h₀ ax its nw ∧ S nw) (Walks.list hh h'.objs.size ax (Nat.ne_of_lt hlt) its) hsz (fun i h st => by obtain ⟨o, e, _⟩ := st.1; exact ⟨o, e⟩) (fun i h h' o nw st e e' k N S => list_st i h h' o nw st e e' k N S.1) hkind hy hxy
      ⟨⟨_, Heap.get?_push_size _ rfl, rfl, rfl⟩, hl.push _⟩ ?_ ?_ ⟨h'.push _, tk', rfl⟩ (F.keeps up) (N.grown up) hoC hxv (Nat.ne_of_lt F.ns.lt) (next_is_new F) (ne _ (.head _)) (ne _ (.tail _ (.head _))) (ne _ (.tail _ (.tail _ (.head _)))) hIC hID hCD off
      (fun p hp => Nat.ne_of_lt (lt p (.tail _ (.tail _ (.tail _ hp))))) ⟨SA, hS⟩ R2 (fun h tk oC' m' ys' nw h1 h2 h3 h4 h5 h6 => hRR h tk oC' m' ys' nw h1 h2 h3 h4 h5.2 h6)
    · intro hm
      rcases List.mem_cons.mp hm with e | hm
      · exact ne _ (.tail _ (.head _)) e.symm
      · exact hap C hC₀ (fun p hp => (off3 p hp).2.1) (List.mem_singleton.mp hm).symm
    · intro hm
      rcases List.mem_cons.mp hm with e | hm
      · exact ne _ (.tail _ (.tail _ (.head _))) e.symm
      · exact hap D hD₀ (fun p hp => (off3 p hp).2.2) (List.mem_singleton.mp hm).symm
  · refine wpAny_pyIter_range hr hsm ?_
    have up : ∀ {o' : Obj} b o, h'.get? b = some o → (h'.push o').get? b = some o := fun b o e => Heap.get?_push_of_some _ e
    refine cc_inner (s₀ := s₀) (m₂ := m₂) (v := v) (S := S) (range_walks hh a n) hsz (fun i h st => ⟨_, st⟩) (fun i h h' o nw st e e' k N S => range_st i h h' o nw st e e' k N trivial) hkind hy hxy
      (by show IsRangeIter _ _ _ _ _; rw [hn]; simpa using Heap.get?_push_size _ rfl) ?_ ?_ ⟨h'.push _, tk', rfl⟩ (F.keeps up) (N.grown up) hoC hxv (Nat.ne_of_lt F.ns.lt) (next_is_new F) (ne _ (.head _)) (ne _ (.tail _ (.head _))) (ne _ (.tail _ (.tail _ (.head _)))) hIC hID hCD off
      (fun p hp => Nat.ne_of_lt (lt p (.tail _ (.tail _ (.tail _ hp))))) hS R2 hRR
    · intro hm
      exact ne _ (.tail _ (.head _)) (List.mem_singleton.mp hm).symm
    · intro hm
      exact ne _ (.tail _ (.tail _ (.head _))) (List.mem_singleton.mp hm).symm
inductive BlkI (h₀ : Heap) (L : Addr) (m : Str → Option Value) (s₂ : Shared) (n : Nat) (St : Nat → Heap → Prop) (S : List (Addr × Obj) → Prop) (I C D : Addr) (Re : Nat → Nat → List Value → List (Addr × Obj) → Prop) (k : Nat) (s' : Shared) : Prop
  | mk (h' : Heap) (tk i : Nat) (ys : List Value) (oC : Obj) (m' : Str → Option Value) (news' : List (Addr × Obj)) (es : s' = { s₂ with heap := h', toks := tk }) (hi : i ≤ n) (hk : k = n + 1 - i) (st : St i h') (hoC : NsObj oC m') (F : Fr h₀ L h' m) (N : News h₀ L h' ((C, oC) :: (D, LCg.lst ys) :: news')) (off : Off3 I C D news') (hS : S news') (R : Re (n - i) i ys news')
theorem cc_block {elt iter iter' : Expr} {x y : Str} {px py : Pos} {ifs : List Expr} {scope : Scope} {cl : List (Str × Addr)} {pos : Pos} {s₂ : Shared} {I : Addr} {fp : List Addr} {n : Nat} {P : Nat → Value → Prop} {St : Nat → Heap → Prop} {S : List (Addr × Obj) → Prop} {news : List (Addr × Obj)}
    {Fin : List Value → List (Addr × Obj) → Prop} {RR : Value → Addr → Result → Shared → Prop} (hh : A.handled = none)
    (W : Walks prog w A I fp [I] n P St) (hIo : ∀ i h, St i h → ∃ o, h.get? I = some o)
    (hSt : ∀ i h h' o nw, St i h → h.get? I = some o → h'.get? I = some o → (∀ b o, h₀.get? b = some o → h'.get? b = some o) → News h₀ L h' nw → S nw → St i h')
    (hs : ∀ C x, foldedSetIterable iter' (compEnvC scope cl C env) x = pure x)
    (hcell : ∀ y ∈ scope.names, y.2 ≠ .cell) (hkind : scope.kind = .function) (hx : scope.names.lookup x = some .local) (hy : scope.names.lookup y = some .local) (hxy : (x == y) = false) (hst : St 0 s₂.heap) (hfp : ∀ b ∈ fp, b < s₂.heap.objs.size)
    (F : Fr h₀ L s₂.heap m) (N : News h₀ L s₂.heap news) (hIL : L ≠ I) (hI₀ : h₀.get? I = none) (off : ∀ p ∈ news, p.1 ≠ I) (hS : S news)
    (R : Rest1 prog w A h₀ L m env elt iter' x y ifs scope cl s₂ S P Fin n 0 [] news)
    (hRR : ∀ D C h tk m' ys news', Fr h₀ L h m → News h₀ L h ((D, LCg.lst ys) :: news') → Off1 D news' → h.Ns C m' → h₀.get? C = none → h₀.get? D = none → C ≠ L → D ≠ L → C ≠ D → (∀ p ∈ news', p.1 ≠ C) → Fin ys news' → RR (.ref D) C (.ok .next) { s₂ with heap := h, toks := tk }) :
    wpAny (model prog w) A (newList []) (fun acc s₃ => wpAny (model prog w) A (newFunctionEnv scope env.globals cl [] env.qual none .none (some env)) (fun cenv s₄ =>
      codeAny (model prog w) A (.compStart (cc elt iter iter' x px y py ifs scope pos) 0 (.ref I) acc { cenv with scope := relabel scope env }) (RR acc cenv.locals) s₄) E s₃) E s₂ := by
  refine wpAny_newObj_type (wpAny_newFunctionEnv hcell (by intro y hy; simp at hy) (fun h₁ hns₁ hsb₁ => ?_) hkind)
  dsimp only at hns₁ hsb₁ ⊢
  generalize hH2 : s₂.heap.push { cls := .type "list", dict := none, data := .seq ([] : List Value).toArray } = H2 at hns₁ hsb₁ ⊢
  have hC : H2.objs.size = s₂.heap.objs.size + 1 := by rw [← hH2, Heap.size_push]
  have hDC : s₂.heap.objs.size ≠ H2.objs.size := by rw [hC]; exact Nat.ne_of_lt (Nat.lt_succ_self _)
  have below : ∀ b, b < s₂.heap.objs.size → b ≠ H2.objs.size ∧ b ≠ s₂.heap.objs.size := fun b hb => ⟨by rw [hC]; exact Nat.ne_of_lt (Nat.lt_succ_of_lt hb), Nat.ne_of_lt hb⟩
  have hDf : s₂.heap.objs.size ∉ fp := fun hm => Nat.lt_irrefl _ (hfp _ hm)
  have hCf : H2.objs.size ∉ fp := fun hm => by have := hfp _ hm; rw [hC] at this; exact Nat.lt_irrefl _ (Nat.lt_of_succ_lt this)
  have hIf : I ∈ fp := W.sub I (List.mem_singleton.mpr rfl)
  have hIlt : I < s₂.heap.objs.size := hfp I hIf
  have old : ∀ b o, s₂.heap.get? b = some o → h₁.get? b = some o := fun b o e => hsb₁.extBut b o (below b (Heap.lt_size e)).1 (Heap.get?_push_of_some _ (hH2 ▸ Heap.get?_push_of_some _ e))
  have hacc : h₁.get? s₂.heap.objs.size = some (LCg.lst []) := hsb₁.extBut _ _ hDC (Heap.get?_push_of_some _ (hH2 ▸ Heap.get?_push_size _ rfl))
  have hst₁ : St 0 h₁ := W.frame _ _ _ hst fun b _ o e => old b o e
  have fresh : ∀ a, s₂.heap.objs.size ≤ a → s₂.heap.get? a = none := fun a ha => by
    cases e : s₂.heap.get? a with
    | none => rfl
    | some o' => exact absurd (Heap.lt_size e) (Nat.not_lt.mpr ha)
  have fresh₀ : ∀ a, s₂.heap.objs.size ≤ a → h₀.get? a = none := fun a ha => by
    cases e : h₀.get? a with
    | none => rfl
    | some o' => have := F.keep a o' e; rw [fresh a ha] at this; cases this
  have hD₀ : h₀.get? s₂.heap.objs.size = none := fresh₀ _ (Nat.le_refl _)
  have hC₀ : h₀.get? H2.objs.size = none := fresh₀ _ (by rw [hC]; exact Nat.le_succ _)
  have hLlt : L < s₂.heap.objs.size := F.ns.lt
  have hDL : s₂.heap.objs.size ≠ L := Ne.symm (below L hLlt).2
  have hCL : H2.objs.size ≠ L := Ne.symm (below L hLlt).1
  have hCI : I ≠ H2.objs.size := (below I hIlt).1
  have hDI : I ≠ s₂.heap.objs.size := (below I hIlt).2
  have off₀ : Off3 I H2.objs.size s₂.heap.objs.size news := Off3.of fun p hp => ⟨off p hp, (below _ (Heap.lt_size (N p hp).1)).1, (below _ (Heap.lt_size (N p hp).1)).2⟩
  obtain ⟨oC₁, heC₁, hoC₁⟩ := ns_obj hns₁
  have loop : ∀ s₃ : Shared, s₃ = { s₂ with heap := h₁, toks := s₂.toks + ([] : List (Str × Value)).length } →
      codeAny (model prog w) A (.compLoop (cc elt iter iter' x px y py ifs scope pos) 0 (.ref I) (.ref s₂.heap.objs.size) (compEnvC scope cl H2.objs.size env))
        (RR (.ref s₂.heap.objs.size) H2.objs.size) s₃ := by
    rintro s₃ rfl
    refine cc_loop0 (hs _)
      (BlkI h₀ L m s₂ n St S I H2.objs.size s₂.heap.objs.size (Rest1 prog w A h₀ L m env elt iter' x y ifs scope cl s₂ S P Fin)) ?_ (n + 1)
      ⟨h₁, _, 0, [], oC₁, _, news, rfl, Nat.zero_le _, rfl, hst₁, hoC₁, F.keeps old, allC ⟨heC₁, hCL, hC₀⟩ (allC ⟨hacc, hDL, hD₀⟩ fun p hp => ⟨old _ _ (N p hp).1, (N p hp).2⟩), off₀, hS, R⟩
    · rintro k s' ⟨h', tk, i, ys, oC, m', news', rfl, hi, rfl, hst', hoC, F', N', off', hS', R'⟩
      by_cases hlt : i < n
      · obtain ⟨j, hj⟩ := Nat.exists_eq_succ_of_ne_zero (Nat.sub_ne_zero_of_lt hlt)
        rw [hj] at R'
        refine W.item i _ _ _ hlt hst' fun v h₂ tk₂ hPv hst₂ hk₂ => ?_
        have hn' : h'.Ns H2.objs.size m' := hoC.ns (N' _ (.head _)).1
        refine wpAny_assign_Name (wpAny_storeName_local (lookup_relabel_local hx) (hn'.at' fun o e => hk₂ _ o (by simpa using Ne.symm hCI) e) (fun h₃ hn₃ hs₃ => ?_) (by simp [compEnvC, relabel, hkind]))
        have hst₃ : St (i + 1) h₃ := W.frame _ _ _ hst₂ fun b hb o e => hs₃.extBut b o (fun q => hCf (by have q' : b = H2.objs.size := q; rw [← q']; exact hb)) e
        obtain ⟨oI, heI⟩ := hIo _ _ hst₃
        obtain ⟨oC₃, heC, hoC₃⟩ := ns_obj hn₃
        have F₃ : Fr h₀ L h₃ m := (fr_but F' hk₂ hIL hI₀).change hs₃ hCL hC₀
        have off3 := off'.mem
        have N₂ : News h₀ L h₂ ((H2.objs.size, oC) :: (s₂.heap.objs.size, LCg.lst ys) :: news') := news_but N' hk₂ (allC (Ne.symm hCI) (allC (Ne.symm hDI) fun p hp => (off3 p hp).1))
        have N₃ : News h₀ L h₃ ((I, oI) :: (H2.objs.size, oC₃) :: (s₂.heap.objs.size, LCg.lst ys) :: news') :=
          allC ⟨heI, Ne.symm hIL, hI₀⟩ (allC ⟨heC, hCL, hC₀⟩ (allC ⟨hs₃.extBut _ _ hDC (N₂ _ (.tail _ (.head _))).1, (N₂ _ (.tail _ (.head _))).2⟩ fun p hp => ⟨hs₃.extBut _ _ (off3 p hp).2.1 (N₂ p (.tail _ (.tail _ hp))).1, (N₂ p (.tail _ (.tail _ hp))).2⟩))
        refine wpAny_mono (R' v I oI H2.objs.size oC₃ s₂.heap.objs.size _ h₃ _ No hPv hoC₃ (by simp) F₃ N₃ off' ⟨hCI, hDI, Ne.symm hDC⟩) (fun xv s₄ h₄ => ?_) fun _ _ e => e
        refine cc_run hh hkind hy hxy hoC₃ (by simp) hCI hDI (Ne.symm hDC) h₄ fun h₅ tk₅ oC₅ m₅ ys₅ news₅ hoC₅ F₅ N₅ off₅ hS₅ R₅ => ?_
        exact ⟨n + 1 - (i + 1), subA hlt, h₅, tk₅, i + 1, ys₅, oC₅, m₅, news₅, rfl, hlt, rfl, hSt _ _ _ _ _ hst₃ heI (N₅ _ (.head _)).1 F₅.keep (fun p hp => N₅ p (.tail _ (.tail _ (.tail _ hp)))) hS₅, hoC₅, F₅, fun p hp => N₅ p (.tail _ hp), off₅, hS₅, by rw [show n - (i + 1) = j from subB (by assumption)]; exact R₅⟩
      · obtain rfl : i = n := Nat.le_antisymm hi (Nat.not_lt.mp hlt)
        rw [Nat.sub_self] at R'
        refine W.done _ _ _ hst' fun h₂ tk₂ hk₂ => ?_
        have off3 := off'.mem
        have hn' : h'.Ns H2.objs.size m' := hoC.ns (N' _ (.head _)).1
        exact hRR _ _ h₂ tk₂ _ ys news' (fr_but F' hk₂ hIL hI₀) (news_but (fun p hp => N' p (.tail _ hp)) hk₂ (allC (Ne.symm hDI) fun p hp => (off3 p hp).1)) off'.one (hn'.at' fun o e => hk₂ _ o (by simpa using Ne.symm hCI) e) hC₀ hD₀ hCL hDL (Ne.symm hDC) (fun p hp => (off3 p hp).2.1) R'
  exact codeAny_compStart_list (loop _ rfl) (W.self 0 _ _ _ hst₁ (loop _ rfl))
/-- where the first clause's items come from -/
inductive Src1 (prog : Program) (w : World) (A : Around) (h₀ : Heap) (L : Addr) (m : Str → Option Value) (env : Env) (elt iter' : Expr) (x y : Str) (ifs : List Expr) (scope : Scope) (cl : List (Str × Addr)) (Fin : Shared → List Value → List (Addr × Obj) → Prop) (xv : Value) (s₁ : Shared) : Prop
  | src (ax : Addr) (its : Array Value) (news : List (Addr × Obj)) (e1 : xv = .ref ax) (F : Fr h₀ L s₁.heap m) (N : News h₀ L s₁.heap news) (SA : SrcAt h₀ ax its news)
    (R : ∀ s₂ : Shared, (∃ h, s₂ = { s₁ with heap := h }) → Rest1 prog w A h₀ L m env elt iter' x y ifs scope cl s₂ (SrcAt h₀ ax its) (fun i v => its[i]? = some v) (Fin s₂) its.size 0 [] news)
  | rng (r : Addr) (a b : Int) (t u v : Tok) (n : Nat) (news : List (Addr × Obj)) (e1 : xv = .ref r) (F : Fr h₀ L s₁.heap m) (N : News h₀ L s₁.heap news) (hr : IsRange s₁.heap r a b 1 t u v) (hsm : Builtin.Range.small a b 1 = true) (hn : Builtin.Range.rangeSize a b 1 = ((n : Nat) : Int))
    (R : ∀ s₂ : Shared, (∃ h, s₂ = { s₁ with heap := h }) → Rest1 prog w A h₀ L m env elt iter' x y ifs scope cl s₂ (fun _ => True) (fun i v => ∃ t, v = .int (a + (i : Int)) t) (Fin s₂) n 0 [] news)
theorem cc_ListComp {elt iter iter' : Expr} {x y : Str} {px py : Pos} {ifs : List Expr} {scope : Scope} {cl : List (Str × Addr)} {pos : Pos} {Q : Value → Shared → Prop} (F₀ : Fr h₀ L s.heap m) (hh : A.handled = none) (hs : ∀ C x, foldedSetIterable iter' (compEnvC scope cl C env) x = pure x)
    (hclos : closureFor scope env = pure cl) (hcell : ∀ y ∈ scope.names, y.2 ≠ .cell) (hkind : scope.kind = .function)
    (hnames : ∀ y ∈ scope.names, y.2 = .local → scope.names.lookup y.1 = some .local) (hx : scope.names.lookup x = some .local) (hy : scope.names.lookup y = some .local) (hxy : (x == y) = false)
    (h : wpAny (model prog w) A (eval iter env) (Src1 prog w A h₀ L m env elt iter' x y ifs scope cl (fun s₂ => FinE h₀ L m s₂ Q)) E s)
    (hs0 : ∀ x, foldedSetIterable iter env x = pure x) :
    wpAny (model prog w) A (eval (cc elt iter iter' x px y py ifs scope pos) env) Q E s := by
  rw [eval_ListComp]
  refine wpAny_comprehension_free (use := none) rfl hs0 hclos hkind hnames (wpAny_mono h (fun xv s₁ h₁ => ?_) fun _ _ e => e)
  have fin : ∀ {s₂ : Shared}, ∀ D C h tk m' ys news', Fr h₀ L h m → News h₀ L h ((D, LCg.lst ys) :: news') → Off1 D news' → h.Ns C m' → h₀.get? C = none → h₀.get? D = none → C ≠ L → D ≠ L → C ≠ D → (∀ p ∈ news', p.1 ≠ C) → FinE h₀ L m s₂ Q ys news' →
      compPost (model prog w) A E none Q (.ref D) C (.ok .next) { s₂ with heap := h, toks := tk } := by
    intro s₂ D C h tk m' ys news' F' N' o1 hn hC₀ hD₀ hCL hDL hCD offC fin
    refine ⟨m', hn, fun h'' hs'' => fin D h'' tk (F'.change hs'' hCL hC₀) (fun p hp => ?_) o1⟩
    exact ⟨hs''.extBut _ _ (allC (P := fun q : Addr × Obj => q.1 ≠ C) (Ne.symm hCD) offC p hp) (N' p hp).1, (N' p hp).2⟩
  rcases h₁ with ⟨ax, its, news, rfl, F, N, S, R⟩ | ⟨r, a, b, t, u, v, n, news, rfl, F, N, hr, hsm, hn, R⟩
  · have hl := S.list F.keep N
    have hlt : ax < s₁.heap.objs.size := by obtain ⟨_, e, _⟩ := hl; exact Heap.lt_size e
    refine wpAny_pyIter_list hl ?_
    have up : ∀ b o, s₁.heap.get? b = some o → (s₁.heap.push { cls := .type "list_iterator", data := .fields #[.ref ax, .int 0 0] }).get? b = some o := fun b o e => Heap.get?_push_of_some _ e
    refine cc_block hh (Walks.list hh s₁.heap.objs.size ax (Nat.ne_of_lt hlt) its) (fun i h st => by obtain ⟨o, e, _⟩ := st.1; exact ⟨o, e⟩) list_st hs hcell hkind hx hy hxy ⟨⟨_, Heap.get?_push_size _ rfl, rfl, rfl⟩, hl.push _⟩ (fun b hb => ?_)
      (F.keeps up) (N.grown up) (Nat.ne_of_lt F.ns.lt) (next_is_new F) (fun p hp => Nat.ne_of_lt (Heap.lt_size (N p hp).1)) S (R _ ⟨_, rfl⟩) fin
    show b < (s₁.heap.push _).objs.size
    rw [Heap.size_push]
    rcases List.mem_cons.mp hb with rfl | hb
    · exact Nat.lt_succ_self _
    · rw [List.mem_singleton.mp hb]; exact Nat.lt_succ_of_lt hlt
  · refine wpAny_pyIter_range hr hsm ?_
    refine cc_block hh (range_walks hh a n) (fun i h st => ⟨_, st⟩) range_st hs hcell hkind hx hy hxy (by show IsRangeIter _ _ _ _ _; rw [hn]; simpa using Heap.get?_push_size _ rfl) (fun b hb => ?_)
      (F.keeps fun _ _ e => Heap.get?_push_of_some _ e) (N.grown fun _ _ e => Heap.get?_push_of_some _ e) (Nat.ne_of_lt F.ns.lt) (next_is_new F) (fun p hp => Nat.ne_of_lt (Heap.lt_size (N p hp).1)) trivial (R _ ⟨_, rfl⟩) fin
    rw [List.mem_singleton.mp hb]
    show s₁.heap.objs.size < (s₁.heap.push _).objs.size
    rw [Heap.size_push]; exact Nat.lt_succ_self _
end
section
variable {prog : Program} {w : World} {A : Around} {h₀ : Heap} {L : Addr} {m : Str → Option Value} {env : Env} {elt iter' : Expr} {x y : Str} {ifs : List Expr} {scope : Scope} {cl : List (Str × Addr)} {s : Shared}
theorem End2.mono {s₁ s₂ : Shared} {J I C D : Addr} {oJ oI oC oD : Obj} {S : List (Addr × Obj) → Prop} {rest rest' : List (Addr × Obj) → Prop} (h : End2 h₀ L m s₁ J oJ I oI C oC D oD S rest s₂) (hr : ∀ nw, rest nw → rest' nw) : End2 h₀ L m s₁ J oJ I oI C oC D oD S rest' s₂ := by
  obtain ⟨h', tk, nw, e, F, N, off, offJ, hS, r⟩ := h
  exact ⟨h', tk, nw, e, F, N, off, offJ, hS, hr _ r⟩
theorem Rest2.ind {S : List (Addr × Obj) → Prop} {P : Nat → Value → Prop} {v : Value} {Next : List Value → List (Addr × Obj) → Prop} (n : Nat) (Inv : Nat → List Value → List (Addr × Obj) → Prop) (fin : ∀ ys news, Inv n ys news → Next ys news)
    (step : ∀ j ys news, j < n → Inv j ys news → ∀ v' J oJ I oI C oC D m₂ h tk (E' : Value → Shared → Prop), P j v' → NsObj oC m₂ → m₂ x = some v → m₂ y = some v' → Fr h₀ L h m → News h₀ L h ((J, oJ) :: (I, oI) :: (C, oC) :: (D, LCg.lst ys) :: news) → Off3 I C D news → (∀ p ∈ news, p.1 ≠ J) →
      ((@Ne Nat J I) ∧ (@Ne Nat J C) ∧ (@Ne Nat J D) ∧ (@Ne Nat I C) ∧ (@Ne Nat I D) ∧ (@Ne Nat C D)) →
      wpAny (model prog w) A (forIn ifs true fun c r => if r = true then do let ok ← isTrue c (compEnvC scope cl C env) (eval c (compEnvC scope cl C env)); pure (ForInStep.yield ok) else pure (ForInStep.yield r)) (fun ok s' => if ok = true then
        wpAny (model prog w) A (eval elt (compEnvC scope cl C env)) (fun z => End2 h₀ L m { s with heap := h, toks := tk } J oJ I oI C oC D (LCg.lst ys) S (fun news' => Inv (j + 1) (ys ++ [z]) news')) E' s'
        else End2 h₀ L m { s with heap := h, toks := tk } J oJ I oI C oC D (LCg.lst ys) S (fun news' => Inv (j + 1) ys news') s') E' { s with heap := h, toks := tk }) :
    ∀ (k j : Nat) (ys : List Value) (news : List (Addr × Obj)), j + k = n → Inv j ys news → Rest2 prog w A h₀ L m env elt x y ifs scope cl s S P v Next k j ys news
  | 0, j, ys, news, e, h => by
    obtain rfl : j = n := by omega
    exact fin _ _ h
  | k + 1, j, ys, news, e, h => by
    intro v' J oJ I oI C oC D m₂ h' tk E' hP hoC hx hy F N off offJ ne
    refine wpAny_mono (step j ys news (by omega) h v' J oJ I oI C oC D m₂ h' tk E' hP hoC hx hy F N off offJ ne) (fun ok s' h₁ => ?_) fun _ _ x => x
    cases ok with
    | true =>
      simp only [if_true] at h₁ ⊢
      exact wpAny_mono h₁ (fun z s₂ h₂ => h₂.mono fun nw hi => Rest2.ind n Inv fin step k (j + 1) _ nw (by omega) hi) fun _ _ x => x
    | false =>
      simp only [Bool.false_eq_true, if_false] at h₁ ⊢
      exact h₁.mono fun nw hi => Rest2.ind n Inv fin step k (j + 1) _ nw (by omega) hi
theorem Rest2.mono {S : List (Addr × Obj) → Prop} {P : Nat → Value → Prop} {v : Value} {Next Next' : List Value → List (Addr × Obj) → Prop} (hN : ∀ ys news, Next ys news → Next' ys news) :
    ∀ {k j : Nat} {ys : List Value} {news : List (Addr × Obj)}, Rest2 prog w A h₀ L m env elt x y ifs scope cl s S P v Next k j ys news → Rest2 prog w A h₀ L m env elt x y ifs scope cl s S P v Next' k j ys news
  | 0, j, ys, news, h => hN _ _ h
  | k + 1, j, ys, news, h => by
    intro v' J oJ I oI C oC D m₂ h' tk E' hP hoC hx hy F N off offJ ne
    refine wpAny_mono (h v' J oJ I oI C oC D m₂ h' tk E' hP hoC hx hy F N off offJ ne) (fun ok s' h₁ => ?_) fun _ _ x => x
    cases ok with
    | true =>
      simp only [if_true] at h₁ ⊢
      exact wpAny_mono h₁ (fun z s₂ h₂ => h₂.mono fun nw hi => Rest2.mono hN hi) fun _ _ x => x
    | false =>
      simp only [Bool.false_eq_true, if_false] at h₁ ⊢
      exact h₁.mono fun nw hi => Rest2.mono hN hi
theorem Src2.mono {S : List (Addr × Obj) → Prop} {v : Value} {Next Next' : List Value → List (Addr × Obj) → Prop} (hN : ∀ ys news, Next ys news → Next' ys news) {I C D : Addr} {oI oC : Obj} {ys : List Value} {xv : Value} {s₁ : Shared}
    (h : Src2 prog w A h₀ L m env elt x y ifs scope cl s S v Next I oI C oC D ys xv s₁) : Src2 prog w A h₀ L m env elt x y ifs scope cl s S v Next' I oI C oC D ys xv s₁ := by
  obtain ⟨h', tk', nw, e, F, N, off, hS, ⟨ax, its, e1, SA, hsz, R⟩ | ⟨r, a, b, t, u, t', n, e1, hr, hsm, hn, hsz, R⟩⟩ := h
  · exact ⟨h', tk', nw, e, F, N, off, hS, .src ax its e1 SA hsz (R.mono hN)⟩
  · exact ⟨h', tk', nw, e, F, N, off, hS, .rng r a b t u t' n e1 hr hsm hn hsz (R.mono hN)⟩
theorem Rest1.ind {S : List (Addr × Obj) → Prop} {P : Nat → Value → Prop} {Fin : List Value → List (Addr × Obj) → Prop} (n : Nat) (Inv : Nat → List Value → List (Addr × Obj) → Prop) (fin : ∀ ys news, Inv n ys news → Fin ys news)
    (step : ∀ i ys news, i < n → Inv i ys news → ∀ v I oI C oC D m₂ h tk (E' : Value → Shared → Prop), P i v → NsObj oC m₂ → m₂ x = some v → Fr h₀ L h m → News h₀ L h ((I, oI) :: (C, oC) :: (D, LCg.lst ys) :: news) → Off3 I C D news → ((@Ne Nat I C) ∧ (@Ne Nat I D) ∧ (@Ne Nat C D)) →
      wpAny (model prog w) A (eval iter' (compEnvC scope cl C env)) (Src2 prog w A h₀ L m env elt x y ifs scope cl s S v (Inv (i + 1)) I oI C oC D ys) E' { s with heap := h, toks := tk }) :
    ∀ (k i : Nat) (ys : List Value) (news : List (Addr × Obj)), i + k = n → Inv i ys news → Rest1 prog w A h₀ L m env elt iter' x y ifs scope cl s S P Fin k i ys news
  | 0, i, ys, news, e, h => by
    obtain rfl : i = n := by omega
    exact fin _ _ h
  | k + 1, i, ys, news, e, h => by
    intro v I oI C oC D m₂ h' tk E' hP hoC hx F N off ne
    exact wpAny_mono (step i ys news (by omega) h v I oI C oC D m₂ h' tk E' hP hoC hx F N off ne) (fun xv s₁ h₁ => Src2.mono (fun ys' nw hi => Rest1.ind n Inv fin step k (i + 1) ys' nw (by omega) hi) h₁) fun _ _ x => x
theorem Rest2.indF {S : List (Addr × Obj) → Prop} {P : Nat → Value → Prop} {v : Value} {Next : List Value → List (Addr × Obj) → Prop} {nw₀ : List (Addr × Obj)} {n : Nat} {ys₀ : List Value} (Inv : Nat → List Value → Prop) (fin : ∀ ys, Inv n ys → Next ys nw₀)
    (step : ∀ j ys, j < n → Inv j ys → ∀ v' J oJ I oI C oC D m₂ h tk (E' : Value → Shared → Prop), P j v' → NsObj oC m₂ → m₂ x = some v → m₂ y = some v' → Fr h₀ L h m → News h₀ L h ((J, oJ) :: (I, oI) :: (C, oC) :: (D, LCg.lst ys) :: nw₀) → Off3 I C D nw₀ → (∀ p ∈ nw₀, p.1 ≠ J) →
      ((@Ne Nat J I) ∧ (@Ne Nat J C) ∧ (@Ne Nat J D) ∧ (@Ne Nat I C) ∧ (@Ne Nat I D) ∧ (@Ne Nat C D)) →
      wpAny (model prog w) A (forIn ifs true fun c r => if r = true then do let ok ← isTrue c (compEnvC scope cl C env) (eval c (compEnvC scope cl C env)); pure (ForInStep.yield ok) else pure (ForInStep.yield r)) (fun ok s' => if ok = true then
        wpAny (model prog w) A (eval elt (compEnvC scope cl C env)) (fun z => End2 h₀ L m { s with heap := h, toks := tk } J oJ I oI C oC D (LCg.lst ys) S (fun news' => news' = nw₀ ∧ Inv (j + 1) (ys ++ [z]))) E' s'
        else End2 h₀ L m { s with heap := h, toks := tk } J oJ I oI C oC D (LCg.lst ys) S (fun news' => news' = nw₀ ∧ Inv (j + 1) ys) s') E' { s with heap := h, toks := tk })
    (h0 : Inv 0 ys₀) : Rest2 prog w A h₀ L m env elt x y ifs scope cl s S P v Next n 0 ys₀ nw₀ :=
  Rest2.ind n (fun i ys nw => nw = nw₀ ∧ Inv i ys) (fun ys nw h => h.1.symm ▸ fin ys h.2) (fun i ys nw hi h => by obtain ⟨rfl, h⟩ := h; exact step i ys hi h) n 0 ys₀ nw₀ (Nat.zero_add _) ⟨rfl, h0⟩
theorem Rest1.indF {S : List (Addr × Obj) → Prop} {P : Nat → Value → Prop} {Fin : List Value → List (Addr × Obj) → Prop} {nw₀ : List (Addr × Obj)} {n : Nat} (Inv : Nat → List Value → Prop) (fin : ∀ ys, Inv n ys → Fin ys nw₀)
    (step : ∀ i ys, i < n → Inv i ys → ∀ v I oI C oC D m₂ h tk (E' : Value → Shared → Prop), P i v → NsObj oC m₂ → m₂ x = some v → Fr h₀ L h m → News h₀ L h ((I, oI) :: (C, oC) :: (D, LCg.lst ys) :: nw₀) → Off3 I C D nw₀ → ((@Ne Nat I C) ∧ (@Ne Nat I D) ∧ (@Ne Nat C D)) →
      wpAny (model prog w) A (eval iter' (compEnvC scope cl C env)) (Src2 prog w A h₀ L m env elt x y ifs scope cl s S v (fun ys' nw' => nw' = nw₀ ∧ Inv (i + 1) ys') I oI C oC D ys) E' { s with heap := h, toks := tk })
    (h0 : Inv 0 []) : Rest1 prog w A h₀ L m env elt iter' x y ifs scope cl s S P Fin n 0 [] nw₀ :=
  Rest1.ind n (fun i ys nw => nw = nw₀ ∧ Inv i ys) (fun ys nw h => h.1.symm ▸ fin ys h.2) (fun i ys nw hi h => by obtain ⟨rfl, h⟩ := h; exact step i ys hi h) n 0 [] nw₀ (Nat.zero_add _) ⟨rfl, h0⟩
end
theorem range_ok (n : Nat) (h : n ≤ 1000) : Builtin.Range.small 0 (n : Int) 1 = true ∧ Builtin.Range.rangeSize 0 (n : Int) 1 = (n : Int) := by
  have e : Builtin.Range.rangeSize 0 (n : Int) 1 = (n : Int) := by
    simp [Builtin.Range.rangeSize]
    intro h0; omega
  refine ⟨?_, e⟩
  unfold Builtin.Range.small
  rw [e]
  simp [Builtin.Range.rangeFitsLong]; omega
section
variable {prog : Program} {w : World} {A : Around} {h₀ : Heap} {L : Addr} {m : Str → Option Value} {env : Env} {elt : Expr} {x : Str} {scope : Scope} {cl : List (Str × Addr)} {s : Shared}
theorem CompEnd.mono {s₁ s₂ : Shared} {I C D : Addr} {oI oC oD : Obj} {S : List (Addr × Obj) → Prop} {rest rest' : Value → List (Addr × Obj) → Prop} {z : Value} (h : CompEnd h₀ L m s₁ I oI C oC D oD S rest z s₂) (hr : ∀ y nw, rest y nw → rest' y nw) : CompEnd h₀ L m s₁ I oI C oC D oD S rest' z s₂ := by
  obtain ⟨h', tk, nw, e, F, N, off, hS, r⟩ := h
  exact ⟨h', tk, nw, e, F, N, off, hS, hr _ _ r⟩
theorem CRest.ind {S : List (Addr × Obj) → Prop} {P : Nat → Value → Prop} {Fin : List Value → List (Addr × Obj) → Prop} (n : Nat) (Inv : Nat → List Value → List (Addr × Obj) → Prop) (fin : ∀ ys news, Inv n ys news → Fin ys news)
    (step : ∀ i ys news, i < n → Inv i ys news → ∀ v I oI C oC D m₂ h tk (E' : Value → Shared → Prop), P i v → NsObj oC m₂ → m₂ x = some v → Fr h₀ L h m → News h₀ L h ((I, oI) :: (C, oC) :: (D, LCg.lst ys) :: news) → Off3 I C D news → ((@Ne Nat I C) ∧ (@Ne Nat I D) ∧ (@Ne Nat C D)) →
      wpAny (model prog w) A (eval elt (compEnvC scope cl C env)) (CompEnd h₀ L m { s with heap := h, toks := tk } I oI C oC D (LCg.lst ys) S (fun y news' => Inv (i + 1) (ys ++ [y]) news')) E' { s with heap := h, toks := tk }) :
    ∀ (k i : Nat) (ys : List Value) (news : List (Addr × Obj)), i + k = n → Inv i ys news → LCg.CompRest prog w A h₀ L m env elt x scope cl s S P Fin k i ys news
  | 0, i, ys, news, e, h => by
    obtain rfl : i = n := by omega
    exact fin _ _ h
  | k + 1, i, ys, news, e, h => by
    intro v I oI C oC D m₂ h' tk E' hP hoC hx F N off ne
    exact wpAny_mono (step i ys news (by omega) h v I oI C oC D m₂ h' tk E' hP hoC hx F N off ne) (fun z s₁ h₁ => CompEnd.mono h₁ fun y nw hi => CRest.ind n Inv fin step k (i + 1) _ nw (by omega) hi) fun _ _ x => x
/-- the same, the ledger fixed -/
theorem CRest.indF {S : List (Addr × Obj) → Prop} {P : Nat → Value → Prop} {Fin : List Value → List (Addr × Obj) → Prop} {nw₀ : List (Addr × Obj)} {n : Nat} (Inv : Nat → List Value → Prop) (fin : ∀ ys, Inv n ys → Fin ys nw₀)
    (step : ∀ i ys, i < n → Inv i ys → ∀ v I oI C oC D m₂ h tk (E' : Value → Shared → Prop), P i v → NsObj oC m₂ → m₂ x = some v → Fr h₀ L h m → News h₀ L h ((I, oI) :: (C, oC) :: (D, LCg.lst ys) :: nw₀) → Off3 I C D nw₀ → ((@Ne Nat I C) ∧ (@Ne Nat I D) ∧ (@Ne Nat C D)) →
      wpAny (model prog w) A (eval elt (compEnvC scope cl C env)) (CompEnd h₀ L m { s with heap := h, toks := tk } I oI C oC D (LCg.lst ys) S (fun y news' => news' = nw₀ ∧ Inv (i + 1) (ys ++ [y]))) E' { s with heap := h, toks := tk })
    (h0 : Inv 0 []) : LCg.CompRest prog w A h₀ L m env elt x scope cl s S P Fin n 0 [] nw₀ :=
  CRest.ind n (fun i ys nw => nw = nw₀ ∧ Inv i ys) (fun ys nw h => h.1.symm ▸ fin ys h.2) (fun i ys nw hi h => by obtain ⟨rfl, h⟩ := h; exact step i ys hi h) n 0 [] nw₀ (Nat.zero_add _) ⟨rfl, h0⟩
end
theorem IntsAre.snoc {vs : List Value} {ns : List Int} (h : IntsAre vs ns) (a : Int) (t : Tok) : IntsAre (vs ++ [.int a t]) (ns ++ [a]) := by
  induction h with
  | nil => exact .cons _ _ .nil
  | cons a b c ih => exact .cons _ _ ih
theorem IntsAre.upTo {vs : List Value} {f : Nat → Int} {i : Nat} {x : Int} {t : Tok} (h : IntsAre vs ((List.range i).map f)) (e : f i = x) : IntsAre (vs ++ [.int x t]) ((List.range (i + 1)).map f) := by
  rw [List.range_succ, List.map_append, List.map_singleton, e]
  exact IntsAre.snoc h _ _
theorem StrsAre.get {vs : List Value} {xs : List Str} (h : StrsAre vs xs) : ∀ {i : Nat} {v : Value}, vs[i]? = some v → ∃ x t, xs[i]? = some x ∧ v = .str x t := by
  induction h with
  | nil => intro i v e; cases e
  | cons y t _ ih =>
    intro i v e
    cases i with
    | zero => exact ⟨y, t, rfl, (Option.some.inj e).symm⟩
    | succ i => exact ih e
theorem StrsAre.len {vs : List Value} {xs : List Str} (h : StrsAre vs xs) : vs.length = xs.length := by
  induction h with
  | nil => rfl
  | cons y t _ ih => exact congrArg (· + 1) ih
theorem tn0 (i : Nat) : (0 + (i : Int)).toNat = i := by omega
theorem tn1 (i : Nat) : (0 + (i : Int) + 1).toNat = i + 1 := by omega
theorem News.sub {h₀ h : Heap} {L : Addr} {news ns : List (Addr × Obj)} (N : News h₀ L h news) (hs : ∀ p ∈ ns, p ∈ news) : News h₀ L h ns := fun p hp => N p (hs p hp)
end
section -- A1
theorem words_A1_0 : True := by
  k_with_none
  w_top off
  trivial
set_option maxHeartbeats 4000000
/-! an _Accumulator: a list of a class of its own -/
noncomputable abbrev acc (dx : Addr) (vs : List Value) (ep : Nat) : Obj := { cls := .ref 221, dict := some dx, data := .seq vs.toArray ep }
section
variable {prog : Program} {w' : World} {w : World} {A : Around} {E : Value → Shared → Prop} {s : Shared} {x dx : Addr} {vs : List Value} {ep : Nat} {h₀ : Heap} {L : Addr} {m : Str → Option Value} {news : List (Addr × Obj)} {M : Model} {h : Heap}
theorem ac_type (hx : h.get? x = some (acc dx vs ep)) : Looks M h (typeOf (.ref x)) (.ref 221) := (Looks.ld hx).andThen .now
theorem ac_sub (X : (hd.heap_1 w.params).In h) : Looks M h (isSubtype (.ref 221) (.type "list")) true := looks_subIn X (by kernel_rfl)
theorem ac_inst (X : (hd.heap_1 w.params).In h) (hx : h.get? x = some (acc dx vs ep)) : Looks M h (isInstance (.ref x) (.type "list")) true := (ac_type hx).andThen (ac_sub X)
end
section
theorem check_list {M : Model} {A : Around} {E : Value → Shared → Prop} {s : Shared} {i owner n : String} {self : Value} {rest : List Value} {kw : List (Str × Value)} {Q : Unit → Shared → Prop}
    (hk : builtinKind i = some .slot ∨ builtinKind i = some .method) (hs : splitId i = some (owner, n)) (hi : Looks M s.heap (isInstance self (.type owner)) true) (ha : argsOk i ⟨self :: rest, kw⟩) (q : Q () s) :
    wpAny M A (checkBuiltinCall i ⟨self :: rest, kw⟩) Q E s := by
  rcases hk with hk | hk <;>
  · simp only [checkBuiltinCall, hk, hs]
    refine wpAny_bind (hi.here ?_)
    simp only [Bool.not_true, Bool.false_eq_true, if_false]
    cases hsig : Manifest.signature? i with
    | none => exact wpAny_pure q
    | some sig =>
      simp only [argsOk, hsig] at ha
      have h2 : Bind.checkArgs i sig ⟨self :: rest, kw⟩ = pure () := ha
      show wpAny M A (Bind.checkArgs i sig ⟨self :: rest, kw⟩) Q E s
      rw [h2]; exact wpAny_pure q
variable {prog : Program} {w' w : World} {A : Around} {E : Value → Shared → Prop} {s : Shared} {x dx : Addr} {vs : List Value} {ep : Nat} {Q : Value → Shared → Prop}
theorem acc_map (f : Array Value → Array Value) (vs : List Value) (ep : Nat) : ∃ ep', Obj.mapSeq f (acc dx vs ep) = { cls := .ref 221, dict := some dx, data := .seq (f vs.toArray) ep' } := ⟨_, rfl⟩
/-- a store into the list's items -/
theorem a_update {f : Array Value → Array Value} {ws : List Value} {Q : Unit → Shared → Prop} (hx : s.heap.get? x = some (acc dx vs ep)) (hf : f vs.toArray = ws.toArray) (h1 : vs.length ≤ 1000) (h2 : ws.length ≤ 1000)
    (h : ∀ h' ep', h'.get? x = some (acc dx ws ep') → Heap.SameBut x s.heap h' → Q () { s with heap := h' }) : wpAny (model prog w) A (updateSeq x f) Q E s := by
  have hsz : (1000000 : Nat) ≤ sizeLine := Nat.le_of_ble_eq_true (by decide +kernel)
  obtain ⟨ep', e⟩ := acc_map (dx := dx) f vs ep
  rw [hf] at e
  have e1 : (s.heap.update x (Obj.mapSeq f)).get? x = some (acc dx ws ep') := by
    rw [Heap.get?_update_self _ hx (by rw [e]; rfl), e]
  refine wpAny_updateSeq hx rfl (h _ ep' e1 (Heap.SameBut.update ..)) (by simp; omega) (by rw [hf]; simp; omega)
theorem a_items {Q : Array Value → Shared → Prop} (hx : s.heap.get? x = some (acc dx vs ep)) (h : Q vs.toArray s) : wpAny (model prog w) A (Builtin.List.listItems (.ref x)) Q E s := by
  unfold Builtin.List.listItems seqItems?
  exact wpAny_bind (wpAny_bind (wpAny_load hx (wpAny_pure (wpAny_pure h))))
theorem a_append {v : Value} (X : (hd.heap_1 w'.params).In s.heap) (hx : s.heap.get? x = some (acc dx vs ep)) (hz : vs.length ≤ 500)
    (h : ∀ h' ep', h'.get? x = some (acc dx (vs ++ [v]) ep') → Heap.SameBut x s.heap h' → Q .none { s with heap := h' }) : wpAny (model prog w) A (call (.builtin "list.append") [.ref x, v]) Q E s := by
  refine wpAny_call (codeAny_call_builtin slot_list_append.plain entry_list_append (check_list (n := "append") (.inr (by decide +kernel)) (by decide +kernel) (ac_inst X hx) (args_list_append _ _) ?_))
  show wpAny _ _ (updateSeq x (·.push v) >>= fun _ => ret .none) _ _ s
  exact wpAny_bind (a_update hx (by simp) (by omega) (by simp; omega) fun h' ep' e hs => wpAny_pure (h h' ep' e hs))
theorem a_len (X : (hd.heap_1 w'.params).In s.heap) (hx : s.heap.get? x = some (acc dx vs ep)) (hz : vs.length ≤ 500)
    (h : ∀ t k, Q (.int (vs.length : Int) t) { s with toks := k }) : wpAny (model prog w) A (call (.builtin "list.__len__") [.ref x]) Q E s := by
  refine wpAny_call (codeAny_call_builtin (by decide +kernel) entry_list_len (check_list (n := "__len__") (.inl (by decide +kernel)) (by decide +kernel) (ac_inst X hx) (by unfold argsOk; kernel_rfl) ?_))
  show wpAny _ _ (seqSize x >>= fun n => retInt n) _ _ s
  unfold seqSize
  refine wpAny_bind (wpAny_bind (wpAny_loadPart hx (wpAny_pure ?_)))
  refine wpAny_bind (wpAny_mkInt (wpAny_pure ?_))
  rw [List.size_toArray]
  exact h _ _
theorem a_pop {v : Value} {us : List Value} (X : (hd.heap_1 w'.params).In s.heap) (hx : s.heap.get? x = some (acc dx vs ep)) (hv : vs = us ++ [v]) (hz : vs.length ≤ 500)
    (h : ∀ h' ep', h'.get? x = some (acc dx us ep') → Heap.SameBut x s.heap h' → Q v { s with heap := h' }) : wpAny (model prog w) A (call (.builtin "list.pop") [.ref x]) Q E s := by
  subst hv
  refine wpAny_call (codeAny_call_builtin (by decide +kernel) PySem.F.entry_list_pop (check_list (n := "pop") (.inr (by decide +kernel)) (by decide +kernel) (ac_inst X hx) (by unfold argsOk; kernel_rfl) ?_))
  unfold Builtin.«list.pop»
  show wpAny _ _ (Builtin.List.listItems (.ref x) >>= fun xs => _) _ _ s
  refine wpAny_bind (a_items hx ?_)
  have hne : (us ++ [v]).toArray.isEmpty = false := by simp
  rw [if_neg (by rw [hne]; decide)]
  have hi : seqIndex? (-1) (us ++ [v]).toArray.size = some us.length := by
    unfold seqIndex?
    simp
    omega
  have hk : ((seqIndex? (-1) (us ++ [v]).toArray.size).bind fun k => (us ++ [v]).toArray[k]?.map (k, ·)) = some (us.length, v) := by
    rw [hi]; simp
  rw [hk]
  dsimp only
  show wpAny _ _ (updateSeq x (fun a => a.eraseIdxIfInBounds us.length) >>= fun _ => ret v) _ _ s
  refine wpAny_bind (a_update (ws := us) hx ?_ (by omega) (by simp at hz; omega) fun h' ep' e hs => wpAny_pure (h h' ep' e hs))
  simp [List.eraseIdx_append_of_length_le]
end
end
section -- A2
theorem words_A2_0 : True := by
  k_with_none
  w_top off
  trivial
set_option maxHeartbeats 4000000
section
variable {prog : Program} {w' w : World} {A : Around} {E : Value → Shared → Prop} {s : Shared} {x dx : Addr} {vs : List Value} {ep : Nat} {M : Model} {h : Heap}
theorem ac_spec {name : Str} {r : Option Value} (X : (hd.heap_1 w'.params).In h) (hx : h.get? x = some (acc dx vs ep)) (e : findIn (hd.heap_1 w'.params) (.ref 221) name = some r) : Looks M h (specialOf (.ref x) name) r :=
  (ac_type hx).andThen (looks_findIn X e)
/-- items of an object, whatever its class -/
noncomputable def Items (h : Heap) (x : Addr) (items : Array Value) : Prop := ∃ o n, h.get? x = some o ∧ o.data = .seq items n
theorem Items.acc (hx : h.get? x = some (acc dx vs ep)) : Items h x vs.toArray := ⟨_, _, hx, rfl⟩
theorem Items.at' {h' : Heap} {items : Array Value} (i : Items h x items) (k : ∀ o, h.get? x = some o → h'.get? x = some o) : Items h' x items := by
  obtain ⟨o, n, e, d⟩ := i
  exact ⟨o, n, k _ e, d⟩
theorem next_item {it l : Addr} {i : Nat} {items : Array Value} {v : Value} {Q : Option Value → Shared → Prop} (hit : s.heap.IsListIter it l i) (hl : Items s.heap l items) (hv : items[i]? = some v)
    (hQ : ∀ h', h'.IsListIter it l (i + 1) → Heap.SameBut it s.heap h' → Q (some v) { s with heap := h' }) : wpAny (model prog w) A (pyNext (.ref it)) Q E s := by
  obtain ⟨o, ho, hc, hd⟩ := id hit
  obtain ⟨ol, nl, hol, hdl⟩ := hl
  unfold pyNext
  refine wpAny_bind (wpAny_attempt (wpAny_callSpecial?_slot (name := Str.ofString "__next__") hit.typeIs slot_listiter_next (wpAny_call_entry slot_listiter_next hit.typeIs entry_listiter_next ?_ (args_listiter_next _))))
  show wpAny _ _ (field (.ref it) 0 >>= _) _ _ s
  refine wpAny_bind (wpAny_field ho hd (x := .ref l) rfl ?_)
  show wpAny _ _ (if (Value.ref l == Value.none) = true then _ else _) _ _ s
  rw [if_neg (show ¬ ((Value.ref l == Value.none) = true) from Bool.false_ne_true)]
  show wpAny _ _ (field (.ref it) 1 >>= _) _ _ s
  refine wpAny_bind (wpAny_field ho hd (x := .int i 0) rfl ?_)
  show wpAny _ _ (seqItems? (.ref l) >>= _) _ _ s
  refine wpAny_bind (wpAny_seqItems hol hdl ?_)
  simp only [Int.toNat_natCast, hv]
  refine wpAny_bind (wpAny_setField ho hd (by simp) (wpAny_pure ⟨v, rfl, wpAny_pure (hQ _ ?_ (Heap.SameBut.update ..))⟩))
  exact ⟨_, Heap.get?_update_self _ ho (Obj.isFreed_of_fields (Obj.data_mapFields hd _)), (Obj.cls_mapFields ..).trans hc, by
    rw [Obj.data_mapFields hd]; simp [rawInt]⟩
theorem next_end {it l : Addr} {i : Nat} {items : Array Value} {Q : Option Value → Shared → Prop} (hh : A.handled = none) (hit : s.heap.IsListIter it l i) (hl : Items s.heap l items) (hv : items[i]? = none)
    (hQ : ∀ h', Heap.ExtBut it s.heap h' → Q none { s with heap := h' }) : wpAny (model prog w) A (pyNext (.ref it)) Q E s := by
  obtain ⟨o, ho, hc, hd⟩ := id hit
  obtain ⟨ol, nl, hol, hdl⟩ := hl
  unfold pyNext
  refine wpAny_bind (wpAny_attempt (wpAny_callSpecial?_slot (name := Str.ofString "__next__") hit.typeIs slot_listiter_next (wpAny_call_entry slot_listiter_next hit.typeIs entry_listiter_next ?_ (args_listiter_next _))))
  show wpAny _ _ (field (.ref it) 0 >>= _) _ _ s
  refine wpAny_bind (wpAny_field ho hd (x := .ref l) rfl ?_)
  show wpAny _ _ (if (Value.ref l == Value.none) = true then _ else _) _ _ s
  rw [if_neg (show ¬ ((Value.ref l == Value.none) = true) from Bool.false_ne_true)]
  show wpAny _ _ (field (.ref it) 1 >>= _) _ _ s
  refine wpAny_bind (wpAny_field ho hd (x := .int i 0) rfl ?_)
  show wpAny _ _ (seqItems? (.ref l) >>= _) _ _ s
  refine wpAny_bind (wpAny_seqItems hol hdl ?_)
  simp only [Int.toNat_natCast, hv]
  refine wpAny_bind (wpAny_rule (wpAny_bind (wpAny_setField ho hd (by simp) ?_)))
  show wpAny _ _ (newExc (.type "StopIteration") [] >>= _) _ _ _
  refine wpAny_bind ?_
  simp only [newExc, newTuple]
  refine wpAny_bind (wpAny_newObj_type ?_ (by size_fits))
  refine wpAny_bind (m := firstArgMember _ _) (wpAny_of_eq (a := Value.none) (by first | rfl | (simp only [firstArgMember]; rfl)) ?_)
  refine wpAny_newObj_type ?_ (by size_fits)
  simp only [raiseNew]
  refine wpAny_bind (wpAny_handled ?_)
  rw [show A.in1.handled = none from hh]
  refine wpAny_bind (wpAny_pure (wpAny_throw ?_))
  refine wpAny_bind (wpAny_isInstance (T := "StopIteration") (b := true) ⟨_, Heap.get?_push_size _ rfl, rfl⟩ isSubtype_stop ?_)
  exact wpAny_pure (hQ _ (((Heap.SameBut.update ..).extBut.push _).push _))
/-- walking the items of an object of any class by a list's iterator -/
theorem Walks.items (hh : A.handled = none) (I ax : Addr) (hne : ax ≠ I) (items : Array Value) :
    Walks prog w A I [I, ax] [I] items.size (fun i v => items[i]? = some v) (fun i h => h.IsListIter I ax i ∧ Items h ax items) where
  sub := fun b hb => by simp at hb; simp [hb]
  frame := fun _ _ _ st hk => ⟨st.1.at fun o e => hk I (by simp) o e, st.2.at' fun o e => hk ax (by simp) o e⟩
  item := fun i s Q E hi st hQ => by
    refine next_item st.1 st.2 (v := items[i]) (by simp [hi]) fun h' hit' hs' => ?_
    exact hQ _ h' s.toks (by simp [hi]) ⟨hit', st.2.at' fun o e => hs'.extBut _ o hne e⟩ fun b o hb e => hs'.extBut b o (fun h => hb (by simp [h])) e
  done := fun s Q E st hQ => next_end hh st.1 st.2 (by simp) fun h' he' => hQ h' s.toks fun b o hb e => he' b o (fun h => hb (by simp [h])) e
  self := fun _ _ _ _ st hQ => wpAny_pyIter_listiter st.1 hQ
theorem a_iter {Q : Value → Shared → Prop} (X : (hd.heap_1 w'.params).In s.heap) (hx : s.heap.get? x = some (acc dx vs ep))
    (hQ : Q (.ref s.heap.objs.size) { s with heap := s.heap.push { cls := .type "list_iterator", data := .fields #[.ref x, .int 0 0] } }) : wpAny (model prog w) A (pyIter (.ref x)) Q E s := by
  have sp : Looks (model prog w) s.heap (specialOf (.ref x) "__iter__") (some (.builtin "list.__iter__")) := ac_spec X hx (by kernel_rfl)
  unfold pyIter
  refine wpAny_bind (sp.here ?_)
  show wpAny _ _ (callSpecialIfBoundUnlessNone? (.ref x) "__iter__" _ >>= _) _ _ s
  refine wpAny_bind ?_
  have hc : wpAny (model prog w) A (call (.builtin "list.__iter__") [.ref x]) (fun it s' => it = .ref s.heap.objs.size ∧ s' = { s with heap := s.heap.push { cls := .type "list_iterator", data := .fields #[.ref x, .int 0 0] } }) E s := by
    refine wpAny_call (codeAny_call_builtin slot_list_iter.plain entry_list_iter (check_list (n := "__iter__") (.inl (by decide +kernel)) (by decide +kernel) (ac_inst X hx) (args_list_iter _) ?_))
    show wpAny _ _ (do ret (← newFields "list_iterator" [.ref x, rawInt 0])) _ _ s
    exact wpAny_bind (wpAny_newObj_type (wpAny_pure ⟨rfl, rfl⟩))
  simp only [callSpecialIfBoundUnlessNone?, bindSpecialIfBound?]
  refine wpAny_holding (wpAny_bind (wpAny_bind (sp.here ?_)))
  simp only [slot_list_iter.bind]
  refine wpAny_bind (wpAny_askSetting (wpAny_ite ?_))
  have fin : wpAny (model prog w) A (call (.builtin "list.__iter__") [.ref x] >>= fun v => pure (some v)) (fun r s' => wpAny (model prog w) A (match r with
      | some it => (specialOf it "__next__" >>= fun r => match r with
        | none => (do rule "iter.non-iterator"; raiseError "TypeError" s!"iter() returned non-iterator of type '{← typeNameOf it}'")
        | some _ => pure it)
      | none => (bindSpecialIfBound? (.ref x) "__getitem__" >>= fun r => match r with
        | none => (do rule "iter.not-iterable"; raiseError "TypeError" s!"'{← typeNameOf (.ref x)}' object is not iterable")
        | some _ => (do rule "iter.getitem-fallback"; newFields "iterator" [.ref x, ← mkInt 0]))) Q E s') E s := by
    refine wpAny_bind (wpAny_mono hc (fun v s' h' => ?_) fun _ _ x => x)
    obtain ⟨rfl, rfl⟩ := h'
    refine wpAny_pure ?_
    dsimp only
    exact wpAny_bind (wpAny_specialOf ⟨_, Heap.get?_push_size _ rfl, rfl⟩ slot_listiter_next.lookup (wpAny_pure hQ))
  split
  · exact wpAny_bind (wpAny_pure (wpAny_pure fin))
  · exact wpAny_tryCatch (wpAny_bind (wpAny_pure (wpAny_pure fin)))
end
end
section -- A3
set_option maxHeartbeats 4000000
/-- walking the pairs of an object of any class by a list's iterator -/
theorem WalksU.items {prog : Program} {w : World} {A : Around} (hh : A.handled = none) (I ax : Addr) (hne : ax ≠ I) (items : Array Value) (Ts : Nat → Addr) (vals : Nat → Array Value)
    (hit : ∀ j, j < items.size → items[j]? = some (.ref (Ts j))) (hTI : ∀ j, j < items.size → Ts j ≠ I) :
    WalksU prog w A I (I :: ax :: (List.range items.size).map Ts) [I] items.size (fun j v => j < items.size ∧ v = vals j)
      (fun j h => h.IsListIter I ax j ∧ Items h ax items ∧ ∀ k, k < items.size → h.IsTuple (Ts k) (vals k))
      (fun j T h => (j < items.size ∧ T = Ts j) ∧ h.IsListIter I ax (j + 1) ∧ Items h ax items ∧ ∀ k, k < items.size → h.IsTuple (Ts k) (vals k)) where
  sub := fun b hb => by simp at hb; simp [hb]
  frame := fun _ _ _ st hk => ⟨st.1.at fun o e => hk I (by simp) o e, st.2.1.at' fun o e => hk ax (by simp) o e,
    fun k hk' => (st.2.2 k hk').at fun o e => hk (Ts k) (List.mem_cons_of_mem _ (List.mem_cons_of_mem _ (List.mem_map.mpr ⟨k, List.mem_range.mpr hk', rfl⟩))) o e⟩
  item := fun i s Q E hi st hQ => by
    refine next_item st.1 st.2.1 (v := .ref (Ts i)) (hit i hi) fun h' hit' hs' => ?_
    have tup : ∀ k, k < items.size → h'.IsTuple (Ts k) (vals k) := fun k hk' => (st.2.2 k hk').extBut hs'.extBut (hTI k hk')
    exact hQ (Ts i) (vals i) h' s.toks ⟨hi, rfl⟩ (tup i hi) ⟨⟨hi, rfl⟩, hit', st.2.1.at' fun o e => hs'.extBut _ o hne e, tup⟩ fun b o hb e => hs'.extBut b o (fun h => hb (by simp [h])) e
  go := fun _ _ _ _ _ s Q _ hm hQ => wpAny_letOwnedTupleGo_listiter hm.2.1 (hQ s.heap hm.2 fun _ _ _ e => e)
  apart := fun j T _ hm hmem => by
    rcases List.mem_cons.mp hmem with e | e
    · exact hTI j hm.1.1 (hm.1.2 ▸ e)
    · cases e
  done := fun s Q E st hQ => next_end hh st.1 st.2.1 (by simp) fun h' he' => hQ h' s.toks fun b o hb e => he' b o (fun h => hb (by simp [h])) e
  self := fun _ _ _ _ st hQ => wpAny_pyIter_listiter st.1 hQ
/-- a code's table: empty, or with the one code that its generator has -/
noncomputable def OneCode (pos : Pos) (ps : Array Value) : Prop := ps = #[] ∨ ∃ c' : Addr, ps = #[rawInt pos.line, rawInt pos.col, .ref c']
section
variable {w : World} {mean : ExcName → Option Value} {mg mb : Str → Option Value} {A : Around} {s : Shared} {E : Value → Shared → Prop} {gb : Heap} {L : Addr} {m : Str → Option Value} {c P x dx : Addr} {vs : List Value} {ep : Nat} {ps : Array Value}
noncomputable abbrev prg : Program := PySem.Challenge.rw_xo0029_01.row.prog
/-- the state behind a table's write -/
theorem fr_ext {h h' : Heap} (F : Fr gb L h m) (hP : h.get? P = some (tabObj ps)) (hg : gb.get? P = none) (hx : Heap.ExtBut P h h') : Fr gb L h' m :=
  ⟨F.ns.at fun o e => hx _ _ (fun q => by
      obtain ⟨o', es, ep, e1, hd, _⟩ := F.ns
      rw [q, hP] at e1; cases e1; cases hd) e,
    fun b o e => hx _ _ (fun q => by rw [q, hg] at e; cases e) (F.keep b o e), F.above⟩
theorem code_or {env : Env} {pos : Pos} {qn : Str} {scope : Scope} {Q : Value → Shared → Prop} (hcode : env.code = .ref c) (ic : CodeHd s.heap c P) (tb : s.heap.get? P = some (tabObj ps)) (hps : OneCode pos ps)
    (hQ : ∀ c' h' tk, Heap.ExtBut P s.heap h' → s.heap.objs.size ≤ h'.objs.size → h'.get? P = some (tabObj #[rawInt pos.line, rawInt pos.col, .ref c']) → Q (.ref c') { s with heap := h', toks := tk }) :
    wpAny (model prg w) A (genexprCode env pos qn scope) Q E s := by
  rcases hps with rfl | ⟨c', rfl⟩
  · refine wpAny_genexprCodeX hcode (ic.code tb (by simp [TriplesOk])) (ic.tab tb) rfl fun c' h' tk hx hge hlt _ _ ht _ => hQ c' h' tk hx (Nat.le_trans hge (Nat.le_of_lt hlt)) ht.2
  · refine wpAny_genexprCode_hit hcode (ic.code tb (by simp [TriplesOk, rawInt])) (c' := .ref c') (by simp [codeAmong, rawInt]) ?_
    exact hQ c' s.heap s.toks (fun _ _ _ e => e) (Nat.le_refl _) tb
theorem ext_none {h h' : Heap} {a : Addr} (hx : Heap.ExtBut P h h') (e : h'.get? a = none) (hp : P ≠ a) : h.get? a = none := by
  cases q : h.get? a with
  | none => rfl
  | some o => rw [hx _ _ (Ne.symm hp) q] at e; cases e
/-- a generator over the pairs of an _Accumulator, whether its code stands in the table or not -/
theorem gen_pairs {env : Env} {elt iter : Expr} {xa xb : Str} {pa pb pt : Pos} {kt : Nat} {scope : Scope} {pos : Pos} {Q : Value → Shared → Prop} {Ts : Nat → Addr} {vals : Nat → Array Value} {Fv : Nat → Value → Prop}
    (B : Base w mean mg mb gb) (F : Fr gb L s.heap m) (hglob : env.globals = mainGlobals) (hcode : env.code = .ref c) (ic : CodeHd s.heap c P) (hP : s.heap.get? P = some (tabObj ps)) (hps : OneCode pos ps) (hgP : gb.get? P = none)
    (hx : s.heap.get? x = some (acc dx vs ep)) (hit : ∀ j, j < vs.length → vs[j]? = some (.ref (Ts j))) (htp : ∀ j, j < vs.length → s.heap.IsTuple (Ts j) (vals j)) (hpr : ∀ j, j < vs.length → ∃ va vb, vals j = #[va, vb])
    (hh : A.handled = none) (hco : scope.isCoroutine = false) (hclos : closureFor scope env = pure []) (hcell : ∀ y ∈ scope.names, y.2 ≠ .cell) (h0 : scope.names.lookup (".0" : Str) = some NameKind.local)
    (hxa : scope.names.lookup xa = some .local) (hxb : scope.names.lookup xb = some .local) (hab : xa ≠ xb) (hkind : scope.kind = .function) (hroom : A.depth < recursionLimit)
    (hev : wpAny (model prg w) A (eval iter env) (fun v s' => v = .ref x ∧ s' = s) E s)
    (hs : ∀ x, genFold iter env x = pure x)
    (hel : ∀ (C : Addr) (code : Value) (A' : Around) E' i va vb (t : Shared) m₂, A'.handled = none → A'.depth ≤ A.depth + 1 → A'.units ≤ A.units + 8 → i < vs.length → vals i = #[va, vb] → Fr gb C t.heap m₂ → m₂ xa = some va → m₂ xb = some vb →
      wpAny (model prg w) A' (eval elt (genEnv scope [] C code builtinsNs env)) (fun y s₃ => Fv i y ∧ Keeps t s₃) E' t)
    (hQ : ∀ (c' a : Addr) (s₅ : Shared), Heap.ExtBut P s.heap s₅.heap → s₅.heap.get? P = some (tabObj #[rawInt pos.line, rawInt pos.col, .ref c']) → (AllBare s.gens → AllBare s₅.gens) → s₅.os = s.os → s₅.drawn = s.drawn →
      (∀ K, K < s.heap.objs.size → Gen prg w A K a vs.length Fv s₅) → Q (.ref a) s₅) :
    wpAny (model prg w) A (eval (.GeneratorExp elt [⟨.Tuple [.Name xa pa, .Name xb pb] kt pt, iter, [], 0⟩] scope pos) env) Q E s := by
  refine wpAny_GeneratorExp_walksQTD hh hco hclos hcell h0 hxa hxb hab hkind hroom (wpAny_mono hev (fun xv s₁ h₁ => ?_) fun _ _ e => e) hs
  obtain ⟨rfl, rfl⟩ := h₁
  have X := B.K.keeps F.keep
  have xlt : x < s₁.heap.objs.size := Heap.lt_size hx
  refine a_iter X hx ?_
  have hl : s₁.heap.NoLimit := B.T.nolimit.keeps F.keep
  refine ⟨hl.push _, ?_⟩
  have hP2 : (s₁.heap.push { cls := .type "list_iterator", data := .fields #[.ref x, .int 0 0] }).get? P = some (tabObj ps) := Heap.get?_push_of_some _ hP
  refine code_or hcode (ic.keeps fun _ _ e => Heap.get?_push_of_some _ e) hP2 hps fun c' h₃ tk₃ hx₃ hsz ht₃ => ?_
  replace hx₃ : Heap.ExtBut P (s₁.heap.push { cls := .type "list_iterator", data := .fields #[.ref x, .int 0 0] }) h₃ := hx₃
  have hsz' : s₁.heap.objs.size + 1 ≤ h₃.objs.size := by have h9 := hsz; rw [show ({ s₁ with heap := s₁.heap.push { cls := .type "list_iterator", data := .fields #[.ref x, .int 0 0] } } : Shared).heap = s₁.heap.push { cls := .type "list_iterator", data := .fields #[.ref x, .int 0 0] } from rfl, Heap.size_push] at h9; exact h9
  have F₃ : Fr gb L h₃ m := fr_ext (F.keeps fun _ _ e => Heap.get?_push_of_some _ e) hP2 hgP hx₃
  have hPlt : P < s₁.heap.objs.size := Heap.lt_size hP
  obtain ⟨bm, ob, M⟩ := bmod_of_top B.T
  rw [← hglob] at M
  have M₃ := M.keeps F₃.keep
  have hxP : x ≠ P := fun q => by rw [q, hP] at hx; cases hx
  have tup₃ : ∀ j, j < vs.length → h₃.IsTuple (Ts j) (vals j) := fun j hj => by
    obtain ⟨o, e1, e2, e3⟩ := htp j hj
    exact ⟨o, hx₃ _ _ (fun q => by rw [q, hP] at e1; cases e1; cases e2) (Heap.get?_push_of_some _ e1), e2, e3⟩
  have tlt : ∀ j, j < vs.length → Ts j < s₁.heap.objs.size := fun j hj => by obtain ⟨o, e1, _⟩ := htp j hj; exact Heap.lt_size e1
  have hst : cStatics < gb.objs.size := by obtain ⟨_, hn, _⟩ := B.T.nolimit; exact hn.lt
  refine wpAny_builtinsFor M₃.ns M₃.name M₃.ne M₃.obj M₃.cls M₃.dict M₃.data ?_
  refine ⟨s₁.heap.objs.size, _, _, vs.toArray.size, _, _, _, fun _ => true, Fv, rfl, fun A' hA' => WalksU.items hA' _ x (Nat.ne_of_lt xlt) vs.toArray Ts vals (fun j hj => by simpa using hit j (by simpa using hj)) (fun j hj => Nat.ne_of_lt (tlt j (by simpa using hj))), ?_, ?_, ?_, B.T.nolimit.keeps F₃.keep, ?_, ?_, ?_⟩
  · rintro i v ⟨hi, rfl⟩
    exact hpr i (by simpa using hi)
  · refine ⟨⟨_, hx₃ _ _ (Ne.symm (Nat.ne_of_lt hPlt)) (Heap.get?_push_size _ rfl), rfl, rfl⟩, ⟨_, _, hx₃ _ _ hxP (Heap.get?_push_of_some _ hx), rfl⟩, fun k hk => tup₃ k (by simpa using hk)⟩
  · intro b hb
    show b < h₃.objs.size
    rcases List.mem_cons.mp hb with rfl | hb
    · exact Nat.lt_of_succ_le hsz'
    rcases List.mem_cons.mp hb with rfl | hb
    · exact Nat.lt_trans xlt (Nat.lt_of_succ_le hsz')
    obtain ⟨k, hk, rfl⟩ := List.mem_map.mp hb
    exact Nat.lt_trans (tlt k (by simpa using List.mem_range.mp hk)) (Nat.lt_of_succ_le hsz')
  · intro hm
    have e9 := List.mem_singleton.mp hm
    exact Nat.lt_irrefl _ (Nat.lt_of_lt_of_le (Nat.lt_trans (Nat.lt_of_lt_of_le hst F.above) F.ns.lt) (Nat.le_of_eq e9.symm))
  · intro href hhref
    replace hhref : ∀ b o, h₃.get? b = some o → href.get? b = some o := hhref
    refine ⟨fun A' E' i va vb t m₂ hA _ _ _ _ _ _ _ => wpAny_pure ⟨rfl, ⟨_, _, rfl, fun _ _ e => e⟩⟩, fun A' E' i va vb t m₂ hA hD hU hp _ hn hma hmb hkp => ?_⟩
    replace hkp : ∀ b ∈ List.range h₃.objs.size, b ∉ [s₁.heap.objs.size] → ∀ o, href.get? b = some o → t.heap.get? b = some o := hkp
    refine hel h₃.objs.size _ A' E' i va vb t m₂ hA hD hU (by simpa using hp.1) hp.2.symm ⟨hn, fun b o e => ?_, ?_⟩ hma hmb
    · have e3 := F₃.keep b o e
      refine hkp b (List.mem_range.mpr (Heap.lt_size e3)) (fun hm => ?_) o (hhref b o e3)
      exact Nat.lt_irrefl _ (Nat.lt_of_lt_of_le (Heap.lt_size (F.keep b o e)) (Nat.le_of_eq (List.mem_singleton.mp hm).symm))
    · exact Nat.le_trans F₃.above (Nat.le_of_lt F₃.ns.lt)
  · intro a h₅ tk gs hgb hag hsz₅ hk₅ W hat
    replace hk₅ : ∀ b o, h₃.get? b = some o → h₅.get? b = some o := hk₅
    replace hag : h₃.objs.size < a := hag
    have hpass : passing (fun _ => true) vs.toArray.size 0 = List.range vs.length := by simp [passing]
    refine hQ c' a _ (fun b o hb e => hk₅ b o (hx₃ b o hb (Heap.get?_push_of_some _ e))) (hk₅ _ _ ht₃) (fun G => G.push hgb) rfl rfl fun K hK => ?_
    have W' := W
    rw [hpass, List.length_range] at W'
    refine ⟨_, _, _, _, W'.imp fun j y hj => ?_, hat, (fun i s' st => st.1.typeIs), List.mem_cons_self, ?_, ?_⟩
    · obtain ⟨i, hi, hf⟩ := hj
      have := List.getElem?_eq_some_iff.mp hi
      obtain ⟨_, e⟩ := this
      rw [List.getElem_range] at e
      rw [e]; exact hf
    · intro b hb
      show b < h₅.objs.size
      rw [hsz₅]
      rcases List.mem_cons.mp hb with rfl | hb
      · exact Nat.lt_succ_self _
      · rcases List.mem_cons.mp hb with rfl | hb
        · exact Nat.lt_succ_of_lt hag
        · exact Nat.lt_succ_of_lt (Nat.lt_trans (List.mem_range.mp hb) hag)
    · intro b hb
      rcases List.mem_cons.mp hb with rfl | hb
      · exact Nat.lt_trans hK (Nat.lt_of_succ_le hsz')
      · exact Nat.lt_of_lt_of_le hK (Nat.le_of_eq (List.mem_singleton.mp hb).symm)
end
end
section -- A4
set_option maxHeartbeats 4000000
noncomputable def preFrom (st : Int) (val : Nat → Int) : Nat → Int
  | 0 => st
  | j + 1 => preFrom st val j + val j
section
variable {prog : Program} {w : World} {A : Around} {E : Value → Shared → Prop} {s : Shared} {I : Addr} {fp wr : List Addr} {G : Array GenState → Array GenState → Prop} {n : Nat} {P : Nat → Value → Prop} {St : Nat → Shared → Prop} {R : Result → Shared → Prop}
theorem sum_loopX (W : WalksS prog w A.in1 I fp wr G n P St) (st : Int) (val : Nat → Int) (hval : ∀ i v, P i v → ∃ t, v = .int (val i) t) (hfit : ∀ j, j < n → InLong (val j) ∧ InLong (preFrom st val (j + 1))) (S : Addr) (hSf : S ∉ fp) :
    ∀ (k i : Nat) (s : Shared) (tA : Tok) (c : Nat), n - i = k → i ≤ n → St i s → s.heap.get? S = some { cls := .type "list", dict := none, data := .seq #[.int (preFrom st val i) tA] c, slots := #[] } →
    (∀ s' t', Moved (S :: wr) G s s' → R (.ok (.ret (.int (preFrom st val n) t'))) s') → codeAny (model prog w) A (.builtin "sum.loop" ⟨[.ref I, .ref S, rawInt 0, rawInt 0], []⟩) R s := by
  have hSw : S ∉ wr := fun h => hSf (W.sub _ h)
  have hsub : ∀ b ∈ wr, b ∈ S :: wr := fun b hb => List.mem_cons_of_mem _ hb
  intro k
  induction k with
  | zero =>
    intro i s tA c hk hi hst hS hR
    have hin : i = n := Nat.le_antisymm (by assumption) (Nat.sub_eq_zero_iff_le.mp (by assumption))
    subst hin
    refine codeAny_builtin PySem.F.entry_sum_loop ?_
    rw [Around.under_plainId PySem.F.plain_sum_loop _]
    show wpAny _ A.in1 (seqItems? (.ref S) >>= _) _ _ s
    refine wpAny_bind (wpAny_seqItems hS rfl ?_)
    show wpAny _ A.in1 (tryCatch (pyNext (.ref I)) _ >>= _) _ _ s
    refine wpAny_bind (wpAny_tryCatch (W.done s _ _ hst fun s' hm => ?_))
    exact wpAny_pure (hR s' tA (hm.mono hsub))
  | succ k ih =>
    intro i s tA c hk hi hst hS hR
    have hlt : i < n := subC (by assumption)
    refine codeAny_builtin PySem.F.entry_sum_loop ?_
    rw [Around.under_plainId PySem.F.plain_sum_loop _]
    show wpAny _ A.in1 (seqItems? (.ref S) >>= _) _ _ s
    refine wpAny_bind (wpAny_seqItems hS rfl ?_)
    show wpAny _ A.in1 (tryCatch (pyNext (.ref I)) _ >>= _) _ _ s
    refine wpAny_bind (wpAny_tryCatch (W.item i s _ _ hlt hst fun v s' hP hst' hm => ?_))
    obtain ⟨t, rfl⟩ := hval i v hP
    have hS' := hm.heap S _ hSw hS
    obtain ⟨⟨f1, f2⟩, f3, f4⟩ := hfit i hlt
    have hc : ((decide (-(2 ^ 63) ≤ val i) && decide (val i < 2 ^ 63)) && (decide (-(2 ^ 63) ≤ preFrom st val i + val i) && decide (preFrom st val i + val i < 2 ^ 63))) = true := by
      simp only [preFrom] at f3 f4
      simp only [Bool.and_eq_true, decide_eq_true_eq]
      exact ⟨⟨f1, f2⟩, f3, f4⟩
    show wpAny _ A.in1 (if (_ : Bool) = true then (mkInt (preFrom st val i + val i) >>= _) else _) _ _ _
    split
    · refine wpAny_bind (wpAny_mkInt ?_)
      show wpAny _ A.in1 (updateSeq S (fun _ => #[.int (preFrom st val i + val i) s'.toks]) >>= _) _ _ _
      refine wpAny_bind ?_
      refine wpAny_updateSeq hS' rfl (wpAny_pure ⟨plainId_quiet PySem.F.plain_sum_loop _, ih (i + 1) _ s'.toks _ (subB (by assumption)) hlt (W.frame _ s' _ _ hst' (by first | exact Nat.le_refl _ | exact Nat.le_succ _ | omega) fun b hb o e => ?_) (Heap.get?_update_self _ hS' rfl) fun s'' t'' hm'' => ?_⟩)
      · exact (Heap.get?_update_other _ _ (fun h : S = b => hSf (by rw [h]; exact hb))).trans e
      · refine hR s'' t'' (Moved.trans W.gtrans ((hm.mono hsub).then_heap (by first | exact Nat.le_refl _ | exact Nat.le_succ _ | omega) fun b o hb e => ?_) hm'')
        exact (Heap.get?_update_other _ _ (fun h : S = b => hb (by rw [h]; exact List.mem_cons_self))).trans e
    · rename_i hneg
      exact absurd hc hneg
theorem sum_from {x : Value} {st : Int} {ts : Tok} {Q : Value → Shared → Prop} (hst0 : InLong st)
    (h : wpAny (model prog w) A.in1 (pyIter x) (fun it s₂ => ∃ I fp wr G n P St val, it = .ref I ∧ WalksS prog w A.in1 I fp wr G n P St ∧ St 0 s₂ ∧ (∀ b ∈ fp, b < s₂.heap.objs.size) ∧
      (∀ i v, P i v → ∃ t, v = .int (val i) t) ∧ (∀ j, j < n → InLong (val j) ∧ InLong (preFrom st val (j + 1))) ∧
      ∀ s' t', Moved wr G s₂ s' → Q (.int (preFrom st val n) t') s') E s) :
    wpAny (model prog w) A (call (.builtin "sum") [x, .int st ts]) Q E s := by
  refine call_function_tree PySem.F.kind_sum PySem.F.plain_sum PySem.F.entry_sum (by unfold argsOk; kernel_rfl) ?_
  unfold Builtin.«sum»
  simp only [List.length_cons, List.length_nil]
  rw [if_neg (by decide)]
  refine wpAny_bind (wpAny_of_eq (show Builtin.Builtins.bindParams "sum" ["start"] 0 ⟨[.int st ts], []⟩ = pure [some (.int st ts)] from rfl) ?_)
  refine wpAny_bind (wpAny_mono h (fun it s₂ h₂ => ?_) fun _ _ e => e)
  obtain ⟨I, fp, wr, G, n, P, St, val, rfl, W, hst, hfp, hval, hfit, hQ⟩ := h₂
  have hc : (decide (-(2 ^ 63) ≤ st) && decide (st < 2 ^ 63)) = true := by
    simp only [Bool.and_eq_true, decide_eq_true_eq]; exact hst0
  show wpAny _ A.in1 (if (decide (-(2 ^ 63) ≤ st) && decide (st < 2 ^ 63)) = true then _ else _) _ _ _
  rw [if_pos hc]
  refine wpAny_bind (wpAny_rule (wpAny_bind (wpAny_mkInt ?_)))
  refine wpAny_bind (wpAny_pure ?_)
  simp only [List.forIn_cons, List.forIn_nil]
  refine wpAny_bind (wpAny_bind (wpAny_bind (wpAny_isInstance (T := "int") (b := false) (typeIs_int _ _ _) PySem.sub_int_str ?_)))
  simp only [Bool.false_eq_true, if_false]
  refine wpAny_pure (wpAny_bind (wpAny_bind (wpAny_isInstance (T := "int") (b := false) (typeIs_int _ _ _) PySem.sub_int_bytes ?_)))
  simp only [Bool.false_eq_true, if_false]
  refine wpAny_pure (wpAny_bind (wpAny_bind (wpAny_isInstance (T := "int") (b := false) (typeIs_int _ _ _) PySem.sub_int_bytearray ?_)))
  simp only [Bool.false_eq_true, if_false]
  refine wpAny_pure (wpAny_pure ?_)
  refine wpAny_bind (wpAny_newObj_type ?_)
  have hSf : s₂.heap.objs.size ∉ fp := fun hm => Nat.lt_irrefl _ (hfp _ hm)
  refine wpAny_pure ⟨plainId_quiet PySem.F.plain_sum_loop _, sum_loopX W st val hval hfit s₂.heap.objs.size hSf n 0 _ s₂.toks 0 rfl (Nat.zero_le _)
    (W.frame 0 s₂ _ _ hst (by first | exact Nat.le_refl _ | exact Nat.le_succ _ | omega) fun b _ o e => Heap.get?_push_of_some _ e) (Heap.get?_push_size _ rfl) fun s' t' hm => ?_⟩
  exact hQ s' t' (hm.drop_new (by first | exact Nat.le_refl _ | exact Nat.le_succ _ | omega))
/-- sum of a generator made here, from a number on -/
theorem sum_gen {st : Int} {ts : Tok} {a K : Addr} {Fv : Nat → Value → Prop} {Q : Value → Shared → Prop} (X : Gen prog w A K a n Fv s) (hst0 : InLong st)
    (val : Nat → Int) (hval : ∀ j v, Fv j v → ∃ t, v = .int (val j) t) (hfit : ∀ j, j < n → InLong (val j) ∧ InLong (preFrom st val (j + 1)))
    (hQ : ∀ s' t', (∀ b o, b ≤ K → s.heap.get? b = some o → s'.heap.get? b = some o) → (AllBare s.gens → AllBare s'.gens) → s'.os = s.os → s'.drawn = s.drawn → Q (.int (preFrom st val n) t') s') :
    wpAny (model prog w) A (call (.builtin "sum") [.ref a, .int st ts]) Q E s := by
  obtain ⟨fp, wr, g, St, W, hst, _, _, hfp, hwr⟩ := X
  have W := W.in4_1
  exact sum_from hst0 (W.self 0 _ _ _ hst ⟨a, _, _, _, _, _, _, val, rfl, W, hst, hfp, hval, hfit, fun s' t' hm => hQ s' t' (fun b o hb e => hm.heap b o (fun q => Nat.lt_irrefl _ (Nat.lt_of_lt_of_le (hwr b q) hb)) e) (fun G => G.movedS hm) hm.os hm.drawn⟩)
/-- a generator stands where nothing old was changed -/
theorem Gen.tok {A : Around} {K a : Addr} {Fv : Nat → Value → Prop} {tk : Nat} (X : Gen prog w A K a n Fv s) (ht : s.toks ≤ tk) : Gen prog w A K a n Fv { s with toks := tk } := by
  obtain ⟨fp, wr, g, St, W, hst, h1, h2, h3, h4⟩ := X
  exact ⟨fp, wr, g, St, W, W.frame 0 s s.heap tk hst ht fun _ _ _ e => e, h1, h2, h3, h4⟩
end
end
section -- A5
set_option maxHeartbeats 4000000
noncomputable abbrev bnd (T i : String) (x : Addr) : Obj := { cls := .type T, data := .fields #[.builtin i, .ref x] }
theorem slot_md_get : Slot "method_descriptor" "__get__" "method_descriptor.__get__" :=
  .of (owner := "method_descriptor") (n := "__get__") (by rw [typeLookup_type, builtinLookup_eq_fast]; kernel_rfl) (by decide +kernel) (by decide +kernel) (by decide +kernel)
    (by first | exact .inl (by decide +kernel) | exact .inr (by decide +kernel)) (by rw [isSubtype_type]; kernel_rfl)
theorem slot_wd_get : Slot "wrapper_descriptor" "__get__" "wrapper_descriptor.__get__" :=
  .of (owner := "wrapper_descriptor") (n := "__get__") (by rw [typeLookup_type, builtinLookup_eq_fast]; kernel_rfl) (by decide +kernel) (by decide +kernel) (by decide +kernel)
    (by first | exact .inl (by decide +kernel) | exact .inr (by decide +kernel)) (by rw [isSubtype_type]; kernel_rfl)
theorem entry_md_get : entryFor table "method_descriptor.__get__" = some Builtin.«method_descriptor.__get__» := entryFor_of_tree (by kernel_rfl)
theorem entry_wd_get : entryFor table "wrapper_descriptor.__get__" = some Builtin.«wrapper_descriptor.__get__» := entryFor_of_tree (by kernel_rfl)
theorem args_md_get (a b c : Value) : argsOk "method_descriptor.__get__" ⟨[a, b, c], []⟩ := by unfold argsOk; kernel_rfl
theorem args_wd_get (a b c : Value) : argsOk "wrapper_descriptor.__get__" ⟨[a, b, c], []⟩ := by unfold argsOk; kernel_rfl
theorem type_pop : typeOf (.builtin "list.pop") = pure (.type "method_descriptor") := by show builtinType _ = _; rw [builtinType_eq_fast]; kernel_rfl
theorem type_llen : typeOf (.builtin "list.__len__") = pure (.type "wrapper_descriptor") := by show builtinType _ = _; rw [builtinType_eq_fast]; kernel_rfl
theorem type_linit : typeOf (.builtin "list.__init__") = pure (.type "wrapper_descriptor") := by show builtinType _ = _; rw [builtinType_eq_fast]; kernel_rfl
section
variable {prog : Program} {w' w : World} {A : Around} {E : Value → Shared → Prop} {s : Shared} {x C : Addr} {M : Model}
open PySem.W.KFB in
theorem md_get {P : Fin → Shared → Prop} (hi : Looks M s.heap (isInstance (.ref x) (.type "list")) true) (h : P (.done (.ret (.ref s.heap.objs.size))) { s with heap := s.heap.push (bnd "builtin_function_or_method" "list.pop" x) }) :
    wpAny M A (Builtin.«method_descriptor.__get__» ⟨[.builtin "list.pop", .ref x, .ref C], []⟩) P E s := by
  unfold Builtin.«method_descriptor.__get__»
  refine wpAny_bind (wpAny_of_eq (a := (.builtin "list.pop", some (.ref x), some (.ref C))) (by first | rfl | kernel_rfl) ?_)
  dsimp only
  refine if_not (by decide +kernel) ?_
  refine wpAny_bind (m := (_ : Sem Unit)) ?_
  show wpAny M A (((_ : Sem (Str × Value)) >>= fun p => _) : Sem Unit) _ _ _
  refine wpAny_bind (wpAny_of_eq (a := (Str.ofString "pop", Value.type "list")) (by first | rfl | kernel_rfl) ?_)
  refine wpAny_bind (hi.here ?_)
  refine if_not rfl ?_
  exact wpAny_pure (wpAny_bind (wpAny_newObj_type (wpAny_pure h)))
open PySem.W.KFB in
theorem wd_get {i n : String} {P : Fin → Shared → Prop} (hi : Looks M s.heap (isInstance (.ref x) (.type "list")) true) (h : P (.done (.ret (.ref s.heap.objs.size))) { s with heap := s.heap.push (bnd "method-wrapper" i x) })
    (hn : i = "list.__len__" ∧ n = "__len__" ∨ i = "list.__init__" ∧ n = "__init__") :
    wpAny M A (Builtin.«wrapper_descriptor.__get__» ⟨[.builtin i, .ref x, .ref C], []⟩) P E s := by
  unfold Builtin.«wrapper_descriptor.__get__»
  refine wpAny_bind (wpAny_of_eq (a := (.builtin i, some (.ref x), some (.ref C))) (by first | rfl | kernel_rfl) ?_)
  dsimp only
  refine wpAny_bind (m := (_ : Sem Unit)) ?_
  show wpAny M A (((_ : Sem (Str × Value)) >>= fun p => _) : Sem Unit) _ _ _
  refine wpAny_bind (wpAny_of_eq (a := (Str.ofString n, Value.type "list")) (by rcases hn with ⟨rfl, rfl⟩ | ⟨rfl, rfl⟩ <;> first | rfl | kernel_rfl) ?_)
  refine wpAny_bind (hi.here ?_)
  refine if_not rfl ?_
  exact wpAny_pure (wpAny_bind (wpAny_newObj_type (wpAny_pure h)))
end
section
variable {prog : Program} {w : World} {A : Around} {E : Value → Shared → Prop} {h : Heap} {g : Array GenState} {d : Drawn} {t : Nat} {os : OsState}
theorem sup_ga {so D x C : Addr} {l₀ l : List Value} {K : Frag} {name : Str} {tk : Tok} {Q : Fin → Shared → Prop} {T gt i : String} {Bi : Builtin} {ob : Obj}
    (hso : h.get? so = some { cls := .type "super", dict := none, data := .fields #[.ref D, .ref x, .ref C], slots := #[] }) (hno : Looks (model prog w) h (opaqueClassAbove (.ref C)) none)
    (hC : Looks (model prog w) h (mroOf (.ref C)) l₀) (hl : (l₀.dropWhile (· != .ref D)).drop 1 = l) (X : K.In h)
    (hf : alongIn K name l = some (some (.builtin i))) (hxC : x ≠ C) (hn : (name == ("__class__" : Str)) = false)
    (SL : Slot T "__get__" gt) (TY : typeOf (.builtin i) = pure (.type T)) (EN : entryFor table gt = some Bi) (AR : ∀ a b c, argsOk gt ⟨[a, b, c], []⟩)
    (run : ∀ {A' : Around} {E' : Value → Shared → Prop} {P : Fin → Shared → Prop}, P (.done (.ret (.ref h.objs.size))) ⟨h.push ob, g, d, t, os⟩ → wpAny (model prog w) A' (Bi ⟨[.builtin i, .ref x, .ref C], []⟩) P E' ⟨h, g, d, t, os⟩)
    (hq : Q (.done (.ret (.ref h.objs.size))) ⟨h.push ob, g, d, t, os⟩) :
    wpAny (model prog w) A (Builtin.«super.__getattribute__» ⟨[.ref so, .str name tk], []⟩) Q E ⟨h, g, d, t, os⟩ := by
  have hlk := SL.lookup
  have hTf : (⟨h, g, d, t, os⟩ : Shared).TypeIs (.builtin i) T := TY
  have hne : (Value.ref x == Value.ref C) = false := by simp [hxC]
  have hdt : ({ cls := .type "super", dict := none, data := .fields #[.ref D, .ref x, .ref C], slots := #[] } : Obj).data = .fields #[.ref D, .ref x, .ref C] := rfl
  have f0 : (#[.ref D, .ref x, .ref C] : Array Value)[0]? = some (.ref D) := rfl
  have f1 : (#[.ref D, .ref x, .ref C] : Array Value)[1]? = some (.ref x) := rfl
  have f2 : (#[.ref D, .ref x, .ref C] : Array Value)[2]? = some (.ref C) := rfl
  unfold Builtin.«super.__getattribute__»
  repeat (first
    | (with_reducible refine wpAny_field hso hdt f0 ?_) | (with_reducible refine wpAny_field hso hdt f1 ?_) | (with_reducible refine wpAny_field hso hdt f2 ?_)
    | (with_reducible refine ks_wpAny_notOpaque hno ?_)
    | (with_reducible refine Looks.at hC ?_; rw [hl])
    | (refine ks_forIn_along X (fun _ _ => rfl) rfl ?_ hf)
    | (with_reducible refine wpAny_of_eq TY ?_)
    | (with_reducible refine wpAny_of_eq hlk ?_)
    | (with_reducible refine wpAny_call_entry SL hTf EN ?_ (AR _ _ _))
    | (with_reducible refine run ?_)
    | (with_reducible refine ⟨_, rfl, ?_⟩)
    | (simp only [hn, hne, Bool.or_false, Bool.false_eq_true, if_false])
    | wp_step
    | dsimp only)
  all_goals exact hq
theorem sup_method {so D x C : Addr} {l₀ l : List Value} {K : Frag} {name : Str} {pl : Sem Bool} {Q : Value × List Value → Shared → Prop} {T gt i : String} {Bi : Builtin} {ob : Obj}
    (hso : h.get? so = some { cls := .type "super", dict := none, data := .fields #[.ref D, .ref x, .ref C], slots := #[] }) (hno : Looks (model prog w) h (opaqueClassAbove (.ref C)) none)
    (hC : Looks (model prog w) h (mroOf (.ref C)) l₀) (hl : (l₀.dropWhile (· != .ref D)).drop 1 = l) (X : K.In h)
    (hf : alongIn K name l = some (some (.builtin i))) (hxC : x ≠ C) (hn : (name == ("__class__" : Str)) = false)
    (SL : Slot T "__get__" gt) (TY : typeOf (.builtin i) = pure (.type T)) (EN : entryFor table gt = some Bi) (AR : ∀ a b c, argsOk gt ⟨[a, b, c], []⟩)
    (run : ∀ {t' : Nat} {A' : Around} {E' : Value → Shared → Prop} {P : Fin → Shared → Prop}, P (.done (.ret (.ref h.objs.size))) ⟨h.push ob, g, d, t', os⟩ → wpAny (model prog w) A' (Bi ⟨[.builtin i, .ref x, .ref C], []⟩) P E' ⟨h, g, d, t', os⟩)
    (hq : Q (.ref h.objs.size, []) ⟨h.push ob, g, d, t + 1, os⟩) :
    wpAny (model prog w) A (getMethod (.ref so) name pl) Q E ⟨h, g, d, t, os⟩ := by
  have hlk := PySem.F.ks_slot_super_ga.lookup
  have hcan := PySem.F.ks_canon_super_ga
  have hT : ∀ t', (⟨h, g, d, t', os⟩ : Shared).TypeIs (.ref so) "super" := fun _ => ⟨_, hso, rfl⟩
  unfold getMethod
  refine wpAny_bind (wpAny_specialOf (hT _) hlk ?_)
  show wpAny _ _ (if (Manifest.canonical "super.__getattribute__" != "object.__getattribute__") = true then _ else _) _ _ _
  rw [if_pos hcan]
  unfold getAttr getAttrBy
  refine wpAny_bind (wpAny_bind (wpAny_mkText (wpAny_holding (wpAny_bind (wpAny_typeOf (hT _) (wpAny_bind (wpAny_of_eq hlk ?_)))))))
  show wpAny _ _ (getAttrByItsOwn (.ref so) (.str name t) (.type "super") (.builtin "super.__getattribute__") true false) _ _ _
  unfold getAttrByItsOwn hookBefore callGetattribute boundAndCalled
  refine wpAny_bind (wpAny_of_eq (show (if onTheHeap (.type "super") then typeLookup (.type "super") "__getattr__" else pure none) = pure none from rfl) ?_)
  refine wpAny_bind (wpAny_attempt (wpAny_holding ?_))
  show wpAny _ _ (bindSpecial (.builtin "super.__getattribute__") (.ref so) >>= _) _ _ _
  refine wpAny_bind (wpAny_of_eq (PySem.F.ks_slot_super_ga.bind _) ?_)
  refine wpAny_mono (Q := fun v s' => v = .ref h.objs.size ∧ s' = ⟨h.push ob, g, d, t + 1, os⟩) (E := fun _ _ => False)
    (wpAny_call_entry PySem.F.ks_slot_super_ga (hT _) PySem.F.ks_entry_super_ga (sup_ga hso hno hC hl X hf hxC hn SL TY EN AR run ⟨_, rfl, rfl, rfl⟩) (PySem.F.ks_gaArgs_super _ _)) (fun v s' hv => ?_) fun _ _ z => z.elim
  obtain ⟨rfl, rfl⟩ := hv
  exact wpAny_pure (wpAny_pure hq)
end
end
section -- A6
set_option maxHeartbeats 4000000
section
variable {prog : Program} {w' w : World} {A : Around} {E : Value → Shared → Prop} {s : Shared} {x dx b : Addr} {vs : List Value} {ep : Nat}
theorem pop_args (x : Addr) : ∀ sig, Manifest.signature? "list.pop" = some sig → Bind.checkArgs "list.pop" { sig with full := s!"{(Str.ofString "_Accumulator").toString}.{Bind.lastOf "list.pop"}" } ⟨[.ref x], []⟩ = pure () := by
  have e : (match Manifest.signature? "list.pop" with
    | some sig => Bind.checkArgs "list.pop" { sig with full := s!"{(Str.ofString "_Accumulator").toString}.{Bind.lastOf "list.pop"}" } ⟨[.ref x], []⟩
    | none => pure ()) = pure () := by kernel_rfl
  intro sig h
  rw [h] at e
  exact e
theorem pop_tree {v : Value} {us : List Value} {Q : Fin → Shared → Prop} (hx : s.heap.get? x = some (acc dx vs ep)) (hv : vs = us ++ [v]) (hz : vs.length ≤ 500)
    (h : ∀ h' ep', h'.get? x = some (acc dx us ep') → Heap.SameBut x s.heap h' → Q (.done (.ret v)) { s with heap := h' }) : wpAny (model prog w) A (Builtin.«list.pop» ⟨[.ref x], []⟩) Q E s := by
  subst hv
  unfold Builtin.«list.pop»
  show wpAny _ _ (Builtin.List.listItems (.ref x) >>= fun xs => _) _ _ s
  refine wpAny_bind (a_items hx ?_)
  have hne : (us ++ [v]).toArray.isEmpty = false := by simp
  rw [if_neg (by rw [hne]; decide)]
  have hi : seqIndex? (-1) (us ++ [v]).toArray.size = some us.length := by
    unfold seqIndex?
    simp
    omega
  have hk : ((seqIndex? (-1) (us ++ [v]).toArray.size).bind fun k => (us ++ [v]).toArray[k]?.map (k, ·)) = some (us.length, v) := by
    rw [hi]; simp
  rw [hk]
  dsimp only
  show wpAny _ _ (updateSeq x (fun a => a.eraseIdxIfInBounds us.length) >>= fun _ => ret v) _ _ s
  refine wpAny_bind (a_update (ws := us) hx ?_ (by omega) (by simp at hz; omega) fun h' ep' e hs => wpAny_pure (h h' ep' e hs))
  simp [List.eraseIdx_append_of_length_le]
theorem len_tree {Q : Fin → Shared → Prop} (hx : s.heap.get? x = some (acc dx vs ep)) (h : ∀ t k, Q (.done (.ret (.int (vs.length : Int) t))) { s with toks := k }) : wpAny (model prog w) A (Builtin.«list.__len__» ⟨[.ref x], []⟩) Q E s := by
  show wpAny _ _ (seqSize x >>= fun n => retInt n) _ _ s
  unfold seqSize
  refine wpAny_bind (wpAny_bind (wpAny_loadPart hx (wpAny_pure ?_)))
  refine wpAny_bind (wpAny_mkInt (wpAny_pure ?_))
  rw [List.size_toArray]
  exact h _ _
theorem init_tree {Q : Fin → Shared → Prop} (hx : s.heap.get? x = some (acc dx vs ep)) (hz : vs.length ≤ 500)
    (h : ∀ h' ep', h'.get? x = some (acc dx [] ep') → Heap.SameBut x s.heap h' → Q (.done (.ret .none)) { s with heap := h' }) : wpAny (model prog w) A (Builtin.«list.__init__» ⟨[.ref x], []⟩) Q E s := by
  unfold Builtin.«list.__init__»
  refine PySem.W.KFB.if_not rfl ?_
  rw [if_neg (by decide)]
  refine wpAny_bind (a_items hx ?_)
  refine wpAny_bind (show wpAny _ _ (updateSeq x (fun _ => #[])) _ _ s from a_update (ws := []) hx rfl (by omega) (by simp) fun h' ep' e hs => ?_)
  exact wpAny_bind (wpAny_letGo (wpAny_pure (h h' ep' e hs)))
open PySem.W.KFB in
/-- a bound builtin of the list part is called -/
theorem bnd_len {Q : Value → Shared → Prop} (hb : s.heap.get? b = some (bnd "method-wrapper" "list.__len__" x)) (hx : s.heap.get? x = some (acc dx vs ep))
    (h : ∀ t k, Q (.int (vs.length : Int) t) { s with toks := k }) : wpAny (model prog w) A (call (.ref b) []) Q E s := by
  refine wpAny_call (codeAny_of_tree ?_)
  show wpAny _ A.in1 (callAny (.ref b) ⟨[], []⟩) _ _ s
  delta callAny; dsimp only
  refine wpAny_bind (wpAny_load hb ?_)
  refine if_so rfl ?_
  dsimp only
  refine if_so rfl ?_
  refine wpAny_bind (wpAny_of_eq (a := ()) (by kernel_rfl) ?_)
  refine wpAny_bind (wpAny_pure (wpAny_pure ?_))
  exact ⟨Code.quiet_builtin _ (by decide +kernel), codeAny_builtin entry_list_len (len_tree hx h)⟩
open PySem.W.KFB in
theorem bnd_init {Q : Value → Shared → Prop} (hb : s.heap.get? b = some (bnd "method-wrapper" "list.__init__" x)) (hx : s.heap.get? x = some (acc dx vs ep)) (hz : vs.length ≤ 500)
    (h : ∀ h' ep', h'.get? x = some (acc dx [] ep') → Heap.SameBut x s.heap h' → Q .none { s with heap := h' }) : wpAny (model prog w) A (call (.ref b) []) Q E s := by
  refine wpAny_call (codeAny_of_tree ?_)
  show wpAny _ A.in1 (callAny (.ref b) ⟨[], []⟩) _ _ s
  delta callAny; dsimp only
  refine wpAny_bind (wpAny_load hb ?_)
  refine if_so rfl ?_
  dsimp only
  refine if_so rfl ?_
  refine wpAny_bind (wpAny_of_eq (a := ()) (by kernel_rfl) ?_)
  refine wpAny_bind (wpAny_pure (wpAny_pure ?_))
  exact ⟨Code.quiet_builtin _ (by decide +kernel), codeAny_builtin (entryFor_of_tree (by kernel_rfl)) (init_tree hx hz h)⟩
open PySem.W.KFB in
theorem bnd_pop {v : Value} {us : List Value} {Q : Value → Shared → Prop} (X : (hd.heap_1 w'.params).In s.heap) (hb : s.heap.get? b = some (bnd "builtin_function_or_method" "list.pop" x)) (hx : s.heap.get? x = some (acc dx vs ep)) (hv : vs = us ++ [v]) (hz : vs.length ≤ 500)
    (h : ∀ h' ep', h'.get? x = some (acc dx us ep') → Heap.SameBut x s.heap h' → Q v { s with heap := h' }) : wpAny (model prog w) A (call (.ref b) []) Q E s := by
  obtain ⟨hh, g, d, t, os⟩ := s
  have L0 : Looks (model prog w) hh (isInstance (.ref x) (.type "module")) false := (ac_type hx).andThen (looks_subIn X (by kernel_rfl))
  have L1 : Looks (model prog w) hh (typeOf (.ref x)) (.ref 221) := ac_type hx
  have L2 : Looks (model prog w) hh (typeOf (.ref 221)) (.type "type") := looks_typeIn X (by kernel_rfl)
  obtain ⟨cd, hcd, hq⟩ : ∃ cd, clsIn (hd.heap_1 w'.params) 221 = some cd ∧ cd.qualname = Str.ofString "_Accumulator" := by
    have e : (clsIn (hd.heap_1 w'.params) 221).map (·.qualname) = some (Str.ofString "_Accumulator") := by kernel_rfl
    obtain ⟨cd, h1, h2⟩ := Option.map_eq_some_iff.mp e
    exact ⟨cd, h1, h2⟩
  refine wpAny_call (codeAny_of_tree ?_)
  show wpAny _ A.in1 (callAny (.ref b) ⟨[], []⟩) _ _ _
  delta callAny; dsimp only
  refine wpAny_bind (wpAny_load hb ?_)
  refine if_so rfl ?_
  dsimp only
  refine if_so rfl ?_
  refine wpAny_bind (m := checkBoundCall "list.pop" ⟨[.ref x], []⟩) ?_
  · delta checkBoundCall
    cases hs : Manifest.signature? "list.pop" with
    | none => exact wpAny_pure (wpAny_bind (wpAny_pure (wpAny_pure ⟨Code.quiet_builtin _ (by decide +kernel), codeAny_builtin PySem.F.entry_list_pop (pop_tree hx hv hz h)⟩)))
    | some sig =>
      have hk : builtinKind "list.pop" = some .method := by decide +kernel
      dsimp only
      rw [hk]
      refine if_not rfl ?_
      refine wpAny_bind (L0.here ?_)
      refine if_not (by decide +kernel) ?_
      refine wpAny_bind (ks_wpAny_isType_inst hx (fun c e => by cases e) ?_)
      refine wpAny_bind (L1.here ?_)
      dsimp only
      refine wpAny_bind ((looks_clsIn X hcd).here ?_)
      refine wpAny_bind (L2.here ?_)
      refine if_so (by decide) ?_
      rw [hq]
      refine wpAny_of_eq (pop_args x sig hs) ?_
      exact wpAny_bind (wpAny_pure (wpAny_pure ⟨Code.quiet_builtin _ (by decide +kernel), codeAny_builtin PySem.F.entry_list_pop (pop_tree hx hv hz h)⟩))
end
end
section -- A7
theorem words_A7_0 : True := by
  k_with_none
  w_top off
  trivial
set_option maxHeartbeats 400000
open PySem.Builtin PySem.Builtin.ObjectAttr PySem.Builtin.Getset_descriptor
theorem refuse_list (self : Value) : refuseLoop self "__setattr__" [.type "list", .type "object"] = pure () := by kernel_rfl
theorem InstAt.acc {h : Heap} {x dx : Addr} {vs : List Value} {ep : Nat} {od : Obj} (h1 : h.get? x = some (acc dx vs ep)) (h2 : h.get? dx = some od) : InstAt h x (acc dx vs ep) 221 (some od) := ⟨h1, rfl, rfl, h2⟩
section
variable {prog : Program} {w' w : World} {A A₀ : Around} {E : Value → Shared → Prop} {s : Shared} {x dx L : Addr} {h₀ : Heap} {m : Str → Option Value} {news news' : List (Addr × Obj)} {vs : List Value} {ep : Nat} {es es' : List DictEntry} {n n' : Nat} {name : Str} {v : Value} {R : Result → Shared → Prop}
theorem osa_acc {od : Option Obj} {tk : Tok} (X : (hd.heap_1 w'.params).In s.heap) (I : InstAt s.heap x (acc dx vs ep) 221 od) (ht : takerIn (hd.heap_1 w'.params) 221 name = some none)
    (h : ∀ b, wpAny (model prog w) A.in1 (storeInOwnDict (.ref x) (.ref 221) (.str name tk) name v b)
      (fun fin s' => match fin with | .done f => R (.ok f) s' | .again c' => c'.quiet = true ∧ codeAny (model prog w) A c' R s') (fun e s' => R (.error e) s') s) :
    codeAny (model prog w) A (.call (.builtin "object.__setattr__") ⟨[.ref x, .str name tk, v], []⟩) R s := by
  have SF := PySem.F.store_object
  obtain ⟨cd, hc, ho⟩ : ∃ cd, clsIn (hd.heap_1 w'.params) 221 = some cd ∧ cd.mro = [.ref 221, .type "list", .type "object"] := by
    have e : (clsIn (hd.heap_1 w'.params) 221).map (·.mro) = some [.ref 221, .type "list", .type "object"] := by kernel_rfl
    obtain ⟨cd, h1, h2⟩ := Option.map_eq_some_iff.mp e
    exact ⟨cd, h1, h2⟩
  have sub : Looks (model prog w) s.heap (isInstance (.ref x) (.type "object")) true := I.type.andThen (looks_subIn X (by kernel_rfl))
  refine codeAny_call_builtin SF.slot.plain SF.entry (@check_slot (model prog w) _ _ s "object.__setattr__" "object" "__setattr__" (.ref x) [.str name tk, v] [] _ SF.kind SF.split sub (SF.args (.ref x) (.str name tk) v) ?_)
  obtain ⟨attr, ha, hr⟩ := Option.bind_eq_some_iff.mp ht
  have hm : Looks (model prog w) s.heap (mroOf (.ref 221)) cd.mro := (looks_clsIn X hc).andThen .now
  have L3 : Looks (model prog w) s.heap (storeTaker? attr) none := by
    cases attr with
    | none => exact .now
    | some a =>
      obtain ⟨b, hb, e⟩ := Option.map_eq_some_iff.mp hr
      refine (looks_takesIn X hb).andThen ?_
      cases b
      · exact .now
      · cases e
  rw [osa_eq, refuse_eq]
  refine wpAny_bind (wpAny_bind (I.type.here (wpAny_bind (hm.here ?_))))
  rw [ho, refuseLoop_ref, refuse_list]
  refine wpAny_pure (wpAny_bind (I.type.here (wpAny_bind ((looks_findIn X ha).here (wpAny_bind (L3.here ?_))))))
  exact h _
/-- an attribute of an _Accumulator is written -/
theorem a_setattr {Q : Unit → Shared → Prop} (X : (hd.heap_1 w'.params).In s.heap) (hx : s.heap.get? x = some (acc dx vs ep)) (hdx : s.heap.get? dx = some (dictOf es n)) (ht : takerIn (hd.heap_1 w'.params) 221 name = some none) (hl : (getL name es).isSome = true) (hz : es.length ≤ 500)
    (h : ∀ h' tk es' n', es' = putL name (PyData.keyHash w.params name) (.str name (s.toks + 1)) v es → h'.get? dx = some (dictOf es' n') → Heap.SameBut dx s.heap h' → Q () { s with heap := h', toks := tk }) :
    wpAny (model prog w) A (setAttr (.ref x) name v) Q E s := by
  have I := InstAt.acc hx hdx
  obtain ⟨hh, gg, dd, tt, oos⟩ := s
  dsimp only at X hx hdx h I
  refine set_plain X I (by kernel_rfl) (osa_acc (s := ⟨hh, gg, dd, tt + 1, oos⟩) X I ht fun b => ?_)
  obtain ⟨cd, hc, hd'⟩ : ∃ cd, clsIn (hd.heap_1 w'.params) 221 = some cd ∧ cd.hasDict = true := by
    have e : (clsIn (hd.heap_1 w'.params) 221).map (·.hasDict) = some true := by kernel_rfl
    exact Option.map_eq_some_iff.mp e
  refine wpAny_bind (wpAny_pure (wpAny_bind (wpAny_bind (wpAny_loadPart hx (wpAny_bind ((looks_clsIn X hc).at ?_))))))
  rw [hd']
  refine wpAny_pure (a := some dx) (wpAny_bind (wpAny_pure (wpAny_bind ?_)))
  unfold nsSet
  refine wpAny_bind (wpAny_bind (wpAny_askSetting (wpAny_pure (wpAny_bind (wpAny_mkText (wpAny_bind (wpAny_loadPart hdx ?_)))))))
  have hp := putName_dict name (PyData.keyHash w.params name) (.str name (tt + 1)) v es n
  have hu : (hh.update dx (Obj.putName name (PyData.keyHash w.params name) (.str name (tt + 1)) v)).get? dx = some (dictOf (putL name (PyData.keyHash w.params name) (.str name (tt + 1)) v es) (putN name es n)) := by
    rw [Heap.get?_update_self _ hdx (by rw [hp]; rfl), hp]
  have hlen : (putL name (PyData.keyHash w.params name) (.str name (tt + 1)) v es).length ≤ 1000 := by
    have : ∀ es : List DictEntry, (putL name (PyData.keyHash w.params name) (.str name (tt + 1)) v es).length ≤ es.length + 1 := by
      intro es
      induction es with
      | nil => simp [putL]
      | cons e r ih => simp only [putL]; split <;> simp [ih]
    have := this es
    omega
  rw [lookIn_dict name es n |>.symm] at hl
  unfold lookIn at hl
  dsimp only [dictOf] at hl ⊢
  have c : (!es.toArray.any (·.key.isStr name) && es.toArray.any (·.refKey)) = false := by
    rw [← Array.any_toList, ← Array.any_toList]
    split at hl
    · rename_i en he
      rw [List.any_eq_true.mpr ⟨en, List.mem_of_find?_eq_some he, List.find?_some he⟩]; rfl
    · split at hl
      · cases hl
      · rename_i z; rw [Bool.not_eq_true] at z; rw [z, Bool.and_false]
  rw [aRefKeyMayBeTheName_at, c]
  refine wpAny_updatePart hdx ?_
  refine wpAny_bind (wpAny_lookBehind hu (pastItsLine_dict (by rw [List.size_toArray, sizeLine_eq]; omega)) ?_)
  exact wpAny_pure (h _ _ _ _ rfl hu (Heap.SameBut.update ..))
end
end
section -- A8
theorem words_A8_0 : True := by
  k_with_none
  w_top off
  trivial
set_option maxHeartbeats 400000
open PySem.Builtin PySem.Builtin.ObjectAttr PySem.Builtin.Getset_descriptor
section
variable {prog : Program} {w' w : World} {A A₀ : Around} {E : Value → Shared → Prop} {s : Shared} {x dx L : Addr} {h₀ : Heap} {m : Str → Option Value} {news news' : List (Addr × Obj)} {vs : List Value} {ep : Nat} {es es' : List DictEntry} {n n' : Nat} {name : Str} {v : Value} {R : Result → Shared → Prop}
theorem slot_list_ga : Slot "list" "__getattribute__" "list.__getattribute__" := by first | exact PySem.F.slot_list_getattribute
theorem ga_args (x v : Value) : argsOk "list.__getattribute__" ⟨[x, v], []⟩ := by unfold argsOk; kernel_rfl
/-- an attribute that stands in the dict -/
theorem a_getattr {expr : Bool} {Q : Value → Shared → Prop} {attr : Option Value} (X : (hd.heap_1 w'.params).In s.heap) (hx : s.heap.get? x = some (acc dx vs ep)) (hdx : s.heap.get? dx = some (dictOf es n))
    (ha : findIn (hd.heap_1 w'.params) (.ref 221) name = some attr) (hn : noGet (hd.heap_1 w'.params) attr = true) (hl : getL name es = some (some v)) (hv : handedIn v = true) (h : Q v { s with toks := s.toks + 1 }) :
    wpAny (model prog w) A (getAttr (.ref x) name expr) Q E s := by
  have I := InstAt.acc hx hdx
  have hf := findObj_own (K := hd.heap_1 w'.params) (C := 221) (od := dictOf es n) (by kernel_rfl) ha hn hl
  obtain ⟨hh, g, d, t, os⟩ := s
  have L0 := I.type (M := model prog w)
  have hga : findIn (hd.heap_1 w'.params) (.ref 221) "__getattribute__" = some (some (.builtin "list.__getattribute__")) := by kernel_rfl
  have hgt : findIn (hd.heap_1 w'.params) (.ref 221) "__getattr__" = some none := by kernel_rfl
  have L1 := looks_findIn (M := model prog w) X hga
  have L2 := looks_find (M := model prog w) X I hf
  have L3 := looks_findIn (M := model prog w) X hgt
  unfold getAttr getAttrBy
  refine wpAny_bind (wpAny_mkText (wpAny_holding (wpAny_bind (L0.at (wpAny_bind (L1.at ?_))))))
  show wpAny _ _ (getAttrByItsOwn _ _ _ _ _ _) _ _ _
  unfold getAttrByItsOwn hookBefore callGetattribute boundAndCalled
  refine wpAny_bind (show wpAny _ _ (typeLookup (.ref 221) "__getattr__") _ _ _ from L3.at ?_)
  refine wpAny_bind (wpAny_attempt (wpAny_holding ?_))
  have hc : (expr && onTheHeap (.builtin "list.__getattribute__")) = false := by cases expr <;> rfl
  rw [hc]
  refine PySem.W.KFB.if_not rfl ?_
  refine wpAny_bind (wpAny_of_eq (slot_list_ga.bind _) ?_)
  have e1 : builtinKind "list.__getattribute__" = some .slot ∨ builtinKind "list.__getattribute__" = some .method := .inl (by decide +kernel)
  have e2 : splitId "list.__getattribute__" = some ("list", "__getattribute__") := by decide +kernel
  have e3 := PySem.am_entry_list_getattribute
  have e4 := ga_args (.ref x) (.str name t)
  have e5 := slot_list_ga.plain
  show wpAny _ _ (call (.builtin "list.__getattribute__") [.ref x, .str name t]) _ _ _
  refine wpAny_call ?_
  refine codeAny_call_builtin e5 e3 ?_
  have e6 : Looks (model prog w) hh (isInstance (.ref x) (.type "list")) true := ac_inst X hx
  refine check_list (s := ⟨hh, g, d, t + 1, os⟩) (i := "list.__getattribute__") (owner := "list") (n := "__getattribute__") (self := .ref x) (rest := [.str name t]) (kw := []) e1 e2 e6 e4 ?_
  unfold Builtin.«object.__getattribute__»
  refine wpAny_bind (wpAny_of_eq (a := (.ref x, [.str name t])) (by first | rfl | kernel_rfl) ?_)
  refine wpAny_bind (wpAny_of_eq (a := name) rfl ?_)
  refine wpAny_bind (L0.at ?_)
  refine wpAny_bind (L2.at ?_)
  refine wpAny_pure ?_
  show wpAny _ _ (handedOut v) _ _ _
  rw [handedOut_of hv]; exact wpAny_pure h
/-- a method, looked up on an _Accumulator -/
theorem a_method {pl : Sem Bool} {Q : Value × List Value → Shared → Prop} {i : Value} {T : String} (X : (hd.heap_1 w'.params).In s.heap) (hx : s.heap.get? x = some (acc dx vs ep)) (hdx : s.heap.get? dx = some (dictOf es n))
    (hf : findIn (hd.heap_1 w'.params) (.ref 221) name = some (some i)) (ht : typeIn (hd.heap_1 w'.params) i = some (.type T)) (hT : T = "method_descriptor" ∨ T = "function") (hs : getL name es = some none) (h : Q (i, [.ref x]) s) :
    wpAny (model prog w) A (getMethod (.ref x) name pl) Q E s := by
  have I := InstAt.acc hx hdx
  have hcan := PySem.canon_list_getattribute
  have hga : findIn (hd.heap_1 w'.params) (.ref 221) "__getattribute__" = some (some (.builtin "list.__getattribute__")) := by kernel_rfl
  have hk : findIn (hd.heap_1 w'.params) (.ref 221) "__getattr__" = some none := by kernel_rfl
  unfold getMethod specialOf
  refine wpAny_bind (wpAny_bind (I.type.here ((looks_findIn X hga).here ?_)))
  dsimp only
  rw [hcan, if_neg (by decide)]
  refine wpAny_bind (wpAny_bind (I.type.here ((looks_findIn X hk).here ?_)))
  refine wpAny_bind (wpAny_bind (I.type.here ((looks_findIn X hf).here (wpAny_bind ((looks_typeIn X ht).here ?_)))))
  rw [if_neg (by rcases hT with rfl | rfl <;> decide +kernel)]
  refine wpAny_bind (wpAny_loadPart hx ?_)
  refine wpAny_bind (wpAny_bind (wpAny_loadPart hdx ?_))
  have a : lookIn name (dictOf es n) = some none := hs
  rw [nsLook_of a]
  refine wpAny_pure ?_
  exact wpAny_bind (wpAny_rule (wpAny_pure h))
end
end
section -- P7
theorem words_P7_0 : True := by
  k_with_none
  w_top off
  trivial
set_option maxHeartbeats 4000000
namespace BA
theorem slot_init : Slot "bytearray" "__init__" "bytearray.__init__" := .of (owner := "bytearray") (n := "__init__") (by rw [typeLookup_type, builtinLookup_eq_fast]; kernel_rfl) (by decide +kernel) (by decide +kernel) (by decide +kernel)
  (by first | exact .inl (by decide +kernel) | exact .inr (by decide +kernel)) (by rw [isSubtype_type]; kernel_rfl)
theorem ent_init : entryFor table "bytearray.__init__" = some Builtin.«bytearray.__init__» := entryFor_of_tree (by kernel_rfl)
theorem ent_new : entryFor table "bytearray.__new__" = some Builtin.«list.__new__» := entryFor_alias (id' := "list.__new__") (by rw [fastTable_eq_tree]; kernel_rfl) (by first | rfl | decide +kernel) (by decide +kernel) (by rw [fastTable_eq_tree]; kernel_rfl)
theorem plain_new : plainId "bytearray.__new__" = true := by decide +kernel
theorem mro0 : mroOf (.type "bytearray") = pure [.type "bytearray", .type "object"] := by rw [mroOf_type]; kernel_rfl
theorem lookup_new : typeLookup (.type "bytearray") "__new__" = pure (some (.builtin "bytearray.__new__")) := by rw [typeLookup_type, builtinLookup_eq_fast]; kernel_rfl
theorem mro : ∃ c tl, mroOf (.type "bytearray") = pure (c :: tl) := ⟨_, _, mro0⟩
theorem sub : isSubtype (.type "bytearray") (.type "bytearray") = pure true := by rw [isSubtype_type]; kernel_rfl
theorem owner_new : ("bytearray.__new__".splitOn ".__new__").headD "" = "bytearray" := by simp +decide [String.splitOn, String.splitOnAux]
theorem newCall (a : Value) : checkBuiltinCall "bytearray.__new__" ⟨[.type "bytearray", a], []⟩ = pure () := by kernel_rfl
theorem typeCall (a : Value) : checkTypeCall "bytearray" ⟨[a], []⟩ = pure () := by kernel_rfl
theorem initArgs (a b : Value) : argsOk "bytearray.__init__" ⟨[a, b], []⟩ := by unfold argsOk; kernel_rfl
theorem code_new {prog : Program} {w : World} {A : Around} {E : Value → Shared → Prop} {s : Shared} (a : Value) {Q₁ : Value → Shared → Prop}
    (h : Q₁ (.ref s.heap.objs.size) { s with heap := s.heap.push { cls := .type "bytearray", data := .bytearray #[] } }) :
    codeAny (model prog w) A (.call (.builtin "bytearray.__new__") ⟨[.type "bytearray", a], []⟩) (wants Q₁ E) s := by
  refine codeAny_of_tree ?_
  show wpAny _ A.in1 (do checkBuiltinCall "bytearray.__new__" ⟨[.type "bytearray", a], []⟩; again (.builtin "bytearray.__new__" ⟨[.type "bytearray", a], []⟩)) _ _ s
  refine wpAny_bind (wpAny_of_eq (newCall a) (wpAny_pure ⟨plainId_quiet plain_new _, codeAny_builtin_stack ent_new rfl fun p st => ?_⟩))
  rw [Around.under_plainId plain_new _]
  have hsub := sub
  have hown := owner_new
  obtain ⟨hp, g, d, tk, os⟩ := s
  simp only [hown]
  wp_walk
  exact h
theorem called : TypeCalled "bytearray" "bytearray.__new__" "bytearray.__init__" :=
  ⟨by decide +kernel, by decide +kernel, mro, madeBy_type mro0 lookup_new (by decide +kernel), by decide +kernel, sub, slot_init⟩
theorem call_tree (x : Value) : ∃ (k1 : Value → Sem Fin) (k2 : Value → Value → Sem Fin), Builtin.«type.__call__» ⟨[.type "bytearray", x], []⟩ = (holding [.builtin "bytearray.__new__"] (call (.builtin "bytearray.__new__") [.type "bytearray", x] []) >>= fun obj => isInstance obj (.type "bytearray") >>= fun b => if (!b) = true then k1 obj else (holding [obj] (callSpecial? obj "__init__" [x] []) >>= fun r => match r with | none => ret obj | some r => if (r != .none) = true then k2 obj r else ret obj)) := by
  have h1 := called.notType
  have h2 := called.canCreate
  have h3 := typeCall x
  have h4 := called.made
  have h5 := mro0
  unfold Builtin.«type.__call__»
  simp only [h1, h2, h3, h4, h5, Bool.false_eq_true, if_false]
  exact ⟨_, _, rfl⟩
section
variable {prog : Program} {w : World} {A : Around} {E : Value → Shared → Prop} {s : Shared}
theorem gBuiltin {id : String} {args : Args} {b : Builtin} {R : Result → Shared → Prop} (hb : entryFor table id = some b) (hbad : (Builtin.Bytes.decodersThatHold.contains id || guardIds.contains id) = false)
    (h : wpG (model prog w) (A.under (.builtin id args)) (b args) (fun fin s' => match fin with | .done f => R (.ok f) s' | .again c' => c'.quiet = true ∧ codeG (model prog w) A c' R s') (fun e s' => R (.error e) s') s) :
    codeG (model prog w) A (.builtin id args) R s := by
  refine gTree hbad ?_
  show wpG _ _ (match entryFor table id with | some b => b args | none => unsupported ((withoutEnding? id "#data").getD id)) _ _ s
  rw [hb]; exact h
theorem kBad {id : String} {args : Args} (h : (Builtin.Bytes.decodersThatHold.contains id || guardIds.contains id) = true) : ¬ bad (.builtin id args) = false := fun e => Bool.noConfusion (h.symm.trans (show (Builtin.Bytes.decodersThatHold.contains id || guardIds.contains id) = false from e))
theorem gStackAny {M : Model} {f : Code × Pos → Bool} {Q : Bool → Shared → Prop} (hf : ∀ c p, bad c = false → f (c, p) = false) (h : Q false s) : wpG M A (do return (← stack).any f) Q E s := fun Γ p hΓ hb hc => by
  show Q (((Γ.code, p) :: Γ.below).any f) s
  have e : ((Γ.code, p) :: Γ.below).any f = false := by
    rw [List.any_eq_false]
    intro x hx
    rcases List.mem_cons.mp hx with rfl | hx
    · rw [hf _ _ hb]; decide
    · obtain ⟨c, q⟩ := x; rw [hf _ _ (hc _ hx)]; decide
  rw [e]; exact h
theorem gExported {M : Model} {self : Value} {Q : Bool → Shared → Prop} (h : Q false s) : wpG M A (Builtin.Bytes.exported self) Q E s := by
  unfold Builtin.Bytes.exported
  refine gStackAny (fun c p hb => ?_) h
  cases c with
  | builtin id args =>
    by_cases h1 : id = "bytearray.__contains__"
    · rw [h1] at hb; exact absurd hb (kBad (by decide +kernel))
    by_cases h2 : id = "bytearray.__mod__"
    · rw [h2] at hb; exact absurd hb (kBad (by decide +kernel))
    by_cases h3 : id = "bytearray.__rmod__"
    · rw [h3] at hb; exact absurd hb (kBad (by decide +kernel))
    by_cases h4 : id = "_struct.pack_into.held"
    · rw [h4] at hb; exact absurd hb (kBad (by decide +kernel))
    by_cases h5 : id = "bytearray.find.held"
    · rw [h5] at hb; exact absurd hb (kBad (by decide +kernel))
    obtain ⟨pos, kw⟩ := args
    have hb2 := (Bool.or_eq_false_iff.mp (show (Builtin.Bytes.decodersThatHold.contains id || guardIds.contains id) = false from hb)).1
    clear hb
    unfold Builtin.Bytes.exported.match_1
    cases pos with
    | nil =>
      dsimp only
      simp only [dif_neg h1, dif_neg h2, dif_neg h3, dif_neg h4, dif_neg h5]
    | cons v rest =>
      dsimp only
      simp only [dif_neg h1, dif_neg h2, dif_neg h3, dif_neg h4, dif_neg h5]
      rw [hb2]; exact Bool.and_false _
  | _ => rfl
theorem wOwn {M : Model} {a : Addr} {Q : Bool → Shared → Prop} (hT : s.TypeIs (.ref a) "bytearray") (h : Q false s) : wpAny M A (Builtin.Bytes.ownRelease (.ref a)) Q E s := by
  have hrel : typeLookup (.type "bytearray") "__release_buffer__" = pure (some (.builtin "bytearray.__release_buffer__")) := by rw [typeLookup_type, builtinLookup_eq_fast]; kernel_rfl
  have e1 : (!("bytearray.__release_buffer__".endsWith ("." ++ "__release_buffer__"))) = false := by decide +kernel
  have e2 : "bytearray.__release_buffer__".dropRight ("__release_buffer__".length + 1) = "bytearray" := by decide +kernel
  unfold Builtin.Bytes.ownRelease Builtin.Bytes.slotIsOwn
  refine wpAny_bind (wpAny_bind (wpAny_specialOf hT hrel ?_))
  dsimp only
  rw [e1, e2, if_neg Bool.false_ne_true]
  exact wpAny_isInstance hT sub (wpAny_pure h)
theorem bind_init (v : Value) : Builtin.Bytes.bindOptional "bytearray.__init__" "bytearray" ["source", "encoding", "errors"] [v] [] = pure [some v, none, none] := by kernel_rfl
theorem asInt (n : Int) (t : Tok) : asIndex (.int n t) = pure n := by kernel_rfl
theorem wWrite {M : Model} {a : Addr} {b : Array UInt8} {f : Array UInt8 → Array UInt8} {Q : Unit → Shared → Prop} (ha : s.heap.get? a = some { cls := .type "bytearray", data := .bytearray b }) (hz : (f b).size ≤ 1000)
    (h : ∀ h', h'.get? a = some { cls := .type "bytearray", data := .bytearray (f b) } → h'.objs.size = s.heap.objs.size → (∀ c, c ≠ a → h'.get? c = s.heap.get? c) → Q () { s with heap := h' }) : wpAny M A (Builtin.Bytes.write (.ref a) f) Q E s := by
  have hl : (1000 : Nat) ≤ sizeLine := Nat.le_of_ble_eq_true (by decide +kernel)
  have hu := Heap.get?_update_self (Obj.mapBytearray f) ha rfl
  show wpAny M A (updateBytearray a f) _ _ _
  unfold updateBytearray
  refine wpAny_bind (wpAny_load ha ?_)
  refine wpAny_bind (wpAny_update ha ?_)
  refine wpAny_lookBehind hu ?_ ?_
  · show (if (f b).size > sizeLine then some "bytearray:memory" else none) = none
    rw [if_neg (by omega)]
  · exact h _ hu (by simp [Heap.update]) fun c hc => Heap.get?_update_ne _ _ _ _ hc
theorem gInit {a : Addr} {n : Nat} {t : Tok} {Q : Value → Shared → Prop} (hn : n ≤ 1000) (h0 : 0 < n) (ha : s.heap.get? a = some { cls := .type "bytearray", data := .bytearray #[] })
    (h : ∀ h' tk, h'.get? a = some { cls := .type "bytearray", data := .bytearray (Array.replicate n 0) } → h'.objs.size = s.heap.objs.size → (∀ c, c ≠ a → h'.get? c = s.heap.get? c) → Q .none { s with heap := h', toks := tk }) :
    wpG (model prog w) A (Builtin.«bytearray.__init__» ⟨[.ref a, .int n t], []⟩) (fun fin s' => ∃ v, fin = .done (.ret v) ∧ Q v s') E s := by
  unfold Builtin.«bytearray.__init__»
  dsimp only
  have hT : s.TypeIs (.ref a) "bytearray" := ⟨_, ha, rfl⟩
  refine gBindA (wOwn hT ?_)
  rw [if_neg Bool.false_ne_true, bind_init]
  refine gBindA (wpAny_pure ?_)
  dsimp only
  refine gBindA (wpAny_pure (gBindA (wpAny_pure ?_)))
  refine gBind ?_
  show wpG _ _ (Builtin.Bytes.exported (.ref a) >>= _) _ _ _
  refine gBind (gExported ?_)
  show wpG _ _ (do let x ← Builtin.Bytes.exportsOf (.ref a); pure (decide (x > 0))) _ _ _
  refine gAny (wpAny_bind ?_)
  unfold Builtin.Bytes.exportsOf
  refine wpAny_bind (wpAny_load ha (wpAny_pure (wpAny_pure ?_)))
  rw [show (decide ((0 : Nat) > 0)) = false from rfl, if_neg Bool.false_ne_true]
  refine gAny ?_
  refine wpAny_bind (wWrite ha (by simp) fun h₁ e₁ z₁ k₁ => ?_)
  have has : asStr? (.int (n : Int) t) = pure none := by kernel_rfl
  have hidx : specialOf (.int n t) "__index__" = pure (some (.builtin "int.__index__")) := by
    show typeLookup (.type "int") "__index__" = _
    rw [typeLookup_type, builtinLookup_eq_fast]; kernel_rfl
  have hat : (asIndex (.int n t)).attempt = pure (.ok (n : Int)) := by rw [asInt]; rfl
  have hl : (1000 : Nat) ≤ sizeLine := Nat.le_of_ble_eq_true (by decide +kernel)
  have hf : (!Builtin.Bytes.fitsIndex (n : Int)) = false := by simp [Builtin.Bytes.fitsIndex]; omega
  have hz : Builtin.Bytes.tooLong (n : Int).toNat = false := by simp [Builtin.Bytes.tooLong]; omega
  have hneg : ¬ ((n : Int) < 0) := by omega
  have hmax : ((n : Int) == 2 ^ 63 - 1) = false := by rw [beq_eq_false_iff_ne]; omega
  simp only [has, hidx, hat, hf, hz, hneg, hmax, pure_bind, Option.isSome_none, Option.isSome_some, Bool.false_eq_true, if_false, if_true]
  refine wpAny_bind (wpAny_rule ?_)
  rw [if_pos (by omega)]
  refine wpAny_bind (wWrite e₁ (by simp; omega) fun h₂ e₂ z₂ k₂ => ?_)
  exact wpAny_pure ⟨_, rfl, h _ _ (by simpa using e₂) (z₂.trans z₁) fun c hc => (k₂ c hc).trans (k₁ c hc)⟩
theorem gCallBA {n : Nat} {t : Tok} {Q : Value → Shared → Prop} (hn : n ≤ 1000) (h0 : 0 < n)
    (h : ∀ a h' tk, s.heap.objs.size = a → h'.get? a = some { cls := .type "bytearray", data := .bytearray (Array.replicate n 0) } → h'.objs.size = a + 1 → (∀ c, c ≠ a → h'.get? c = s.heap.get? c) → Q (.ref a) { s with heap := h', toks := tk }) :
    wpG (model prog w) A (call (.type "bytearray") [.int n t]) Q E s := by
  refine gCall (gTree rfl ?_)
  show wpG _ _ (callAny (.type "bytearray") _) _ _ _
  refine gAny (wpAny_pure ⟨Code.quiet_builtin _ (by decide +kernel), gBuiltin F.entry_type_call (by decide +kernel) ?_⟩)
  rw [Around.under_plain (weight_type_call_type _ _ _) rfl]
  obtain ⟨k1, k2, e⟩ := call_tree (.int n t)
  show wpG _ _ (Builtin.«type.__call__» ⟨[.type "bytearray", .int n t], []⟩) _ _ _
  rw [e]
  have hs : s.heap.objs.size = s.heap.objs.size := rfl
  refine gBindA (wpAny_holding (wpAny_call (codeAny_mono (code_new (Q₁ := fun v s' => v = .ref s.heap.objs.size ∧ s' = { s with heap := s.heap.push { cls := .type "bytearray", data := .bytearray #[] } }) (E := fun _ _ => False) (.int n t) ⟨rfl, rfl⟩) fun r s' x => ?_)))
  cases r with
  | error e => exact x.elim
  | ok fl =>
    cases fl with
    | ret v =>
      obtain ⟨rfl, rfl⟩ := x
      have ha : (s.heap.push { cls := .type "bytearray", data := .bytearray #[] }).get? s.heap.objs.size = some { cls := .type "bytearray", data := .bytearray #[] } := Heap.get?_push_size _ rfl
      have hT : ({ s with heap := s.heap.push { cls := .type "bytearray", data := .bytearray #[] } } : Shared).TypeIs (.ref s.heap.objs.size) "bytearray" := ⟨_, ha, rfl⟩
      refine gBindA (wpAny_isInstance hT sub ?_)
      rw [if_neg (by decide)]
      refine gBind (gHolding ?_)
      unfold callSpecial?
      refine gBindA (wpAny_specialOf hT slot_init.lookup ?_)
      dsimp only
      refine gHolding ?_
      refine gBindA (wpAny_of_eq (slot_init.bind _) ?_)
      refine gBind (gCall (gTree rfl ?_))
      show wpG _ _ (do checkBuiltinCall "bytearray.__init__" ⟨[.ref s.heap.objs.size, .int n t], []⟩; again (.builtin "bytearray.__init__" ⟨[.ref s.heap.objs.size, .int n t], []⟩)) _ _ _
      refine gBindA (slot_init.check _ _ _ _ _ _ _ _ hT (initArgs _ _) ?_)
      refine gAny (wpAny_pure ⟨plainId_quiet slot_init.plain _, gBuiltin ent_init (by decide +kernel) ?_⟩)
      rw [Around.under_plainId slot_init.plain _]
      refine gMono (gInit (Q := fun v s' => v = .none ∧ Q (.ref s.heap.objs.size) s') (E := fun _ _ => False) hn h0 ha fun h₂ tk e₂ z₂ k₂ => ⟨rfl, h _ _ _ rfl e₂ (by rw [z₂]; simp [Heap.push]) fun c hc => (k₂ c hc).trans (Heap.get?_push_ne _ _ _ hc)⟩) (fun fin s' x => ?_) fun _ _ x => x.elim
      obtain ⟨v, rfl, rfl, hq⟩ := x
      exact gAny (wpAny_pure (gAny (by dsimp only; rw [if_neg (by decide)]; exact wpAny_pure hq)))
    | _ => exact x.elim
end
end BA
end
section -- P8
set_option maxHeartbeats 4000000
namespace BA
theorem slot_set : Slot "bytearray" "__setitem__" "bytearray.__setitem__" := .of (owner := "bytearray") (n := "__setitem__") (by rw [typeLookup_type, builtinLookup_eq_fast]; kernel_rfl) (by decide +kernel) (by decide +kernel) (by decide +kernel)
  (by first | exact .inl (by decide +kernel) | exact .inr (by decide +kernel)) (by rw [isSubtype_type]; kernel_rfl)
theorem ent_set : entryFor table "bytearray.__setitem__" = some Builtin.«bytearray.__setitem__» := entryFor_of_tree (by kernel_rfl)
theorem args_set (a b c : Value) : argsOk "bytearray.__setitem__" ⟨[a, b, c], []⟩ := by unfold argsOk; kernel_rfl
theorem sub_int (k : Nat) (t : Tok) (hk : k < 1000) : Builtin.Bytes.subscript? (.int k t) = pure (some (k : Int)) := by
  have hidx : specialOf (.int k t) "__index__" = pure (some (.builtin "int.__index__")) := by
    show typeLookup (.type "int") "__index__" = _
    rw [typeLookup_type, builtinLookup_eq_fast]; kernel_rfl
  have hf : (!Builtin.Bytes.fitsIndex (k : Int)) = false := by simp [Builtin.Bytes.fitsIndex]; omega
  unfold Builtin.Bytes.subscript?
  simp only [hidx, asInt, hf, pure_bind, Option.isNone_some, Bool.false_eq_true, if_false]
theorem byte_val (x : UInt8) (t : Tok) : Builtin.Bytes.byteValue (.int x.toNat t) = pure x := by
  unfold Builtin.Bytes.byteValue
  have h1 : (decide ((x.toNat : Int) < 0) || decide ((x.toNat : Int) ≥ 256)) = false := by
    have := x.toNat_lt; simp; omega
  simp only [asInt, pure_bind, h1, Bool.false_eq_true, if_false]
  simp
section
variable {prog : Program} {w : World} {A : Around} {E : Value → Shared → Prop} {s : Shared}
theorem wSet {a : Addr} {b : Array UInt8} {k : Nat} {t tx : Tok} {x : UInt8} {Q : Unit → Shared → Prop} (ha : s.heap.get? a = some { cls := .type "bytearray", data := .bytearray b }) (hk : k < b.size) (hz : b.size ≤ 1000)
    (h : ∀ h', h'.get? a = some { cls := .type "bytearray", data := .bytearray (b.setIfInBounds k x) } → h'.objs.size = s.heap.objs.size → (∀ c, c ≠ a → h'.get? c = s.heap.get? c) → Q () { s with heap := h' }) :
    wpAny (model prog w) A (setItem (.ref a) (.int k t) (.int x.toNat tx)) Q E s := by
  have hT : s.TypeIs (.ref a) "bytearray" := ⟨_, ha, rfl⟩
  unfold setItem
  refine wpAny_holding ?_
  refine wpAny_bind (wpAny_sequenceKey hT (by decide) ?_)
  refine wpAny_bind (wpAny_callSpecial?_slot (name := Str.ofString "__setitem__") hT slot_set (wpAny_call_entry slot_set hT ent_set ?_ (args_set _ _ _)))
  show wpAny _ _ (Builtin.Bytes.subscript? (.int k t) >>= _) _ _ s
  rw [sub_int k t (by omega), pure_bind]
  show wpAny _ _ (Builtin.Bytes.byteValue (.int x.toNat tx) >>= _) _ _ s
  rw [byte_val, pure_bind]
  unfold Builtin.Bytes.payload Builtin.Bytes.payload?
  refine wpAny_bind (wpAny_bind (wpAny_bind (wpAny_load ha (wpAny_pure (wpAny_pure ?_)))))
  have e : seqIndex? (k : Int) b.size = some k := by simp [seqIndex?]; omega
  rw [e]
  refine wpAny_bind (wWrite ha (by simpa using hz) fun h' e' z' k' => ?_)
  exact wpAny_pure ⟨_, rfl, wpAny_pure (h h' e' z' k')⟩
theorem wBuf {M : Model} {a : Addr} {b : Array UInt8} {Q : Option (Array UInt8) → Shared → Prop} (ha : s.heap.get? a = some { cls := .type "bytearray", data := .bytearray b }) (h : Q (some b) s) : wpAny M A (Builtin.Bytes.buffer? "bytes.__new__" (.ref a) true) Q E s := by
  have hT : s.TypeIs (.ref a) "bytearray" := ⟨_, ha, rfl⟩
  have hbuf : typeLookup (.type "bytearray") "__buffer__" = pure (some (.builtin "bytearray.__buffer__")) := by rw [typeLookup_type, builtinLookup_eq_fast]; kernel_rfl
  have e1 : (!("bytearray.__buffer__".endsWith ("." ++ "__buffer__"))) = false := by decide +kernel
  have e2 : "bytearray.__buffer__".dropRight ("__buffer__".length + 1) = "bytearray" := by decide +kernel
  unfold Builtin.Bytes.buffer?
  refine wpAny_bind (wpAny_specialOf hT hbuf ?_)
  (try dsimp only)
  unfold Builtin.Bytes.slotIsOwn
  refine wpAny_bind (wpAny_bind (wpAny_specialOf hT hbuf ?_))
  (try dsimp only)
  rw [e1, e2, if_neg Bool.false_ne_true]
  refine wpAny_isInstance hT sub ?_
  refine bm_if_false rfl ?_
  refine wpAny_bind (wpAny_specialOf hT hbuf ?_)
  (try dsimp only)
  refine wpAny_bind (wOwn hT ?_)
  rw [if_neg (by decide)]
  unfold Builtin.Bytes.payload Builtin.Bytes.payload?
  refine wpAny_bind (wpAny_bind (wpAny_bind (wpAny_load ha (wpAny_pure (wpAny_pure ?_)))))
  exact wpAny_pure h
theorem bind_new (v : Value) : Builtin.Bytes.bindOptional "bytes.__new__" "bytes" ["source", "encoding", "errors"] [v] [] = pure [some v, none, none] := by kernel_rfl
theorem noBytes : typeLookup (.type "bytearray") "__bytes__" = pure none := by rw [typeLookup_type, builtinLookup_eq_fast]; kernel_rfl
theorem noIndex : typeLookup (.type "bytearray") "__index__" = pure none := by rw [typeLookup_type, builtinLookup_eq_fast]; kernel_rfl
theorem code_bytes {a : Addr} {b : Array UInt8} {Q : Value → Shared → Prop} (hz : b.size ≤ 1000) (ha : s.heap.get? a = some { cls := .type "bytearray", data := .bytearray b })
    (hQ : ∀ t k, Q (.bytes b t) { s with toks := k }) : codeAny (model prog w) A (.call (.builtin "bytes.__new__") ⟨[.type "bytes", .ref a], []⟩) (wants Q E) s := by
  refine codeAny_of_tree ?_
  show wpAny _ A.in1 (do checkBuiltinCall "bytes.__new__" ⟨[.type "bytes", .ref a], []⟩; again (.builtin "bytes.__new__" ⟨[.type "bytes", .ref a], []⟩)) _ _ s
  refine wpAny_bind (wpAny_of_eq (F.bm_newCall _) (wpAny_pure ⟨plainId_quiet F.bm_plain _, codeAny_builtin F.bm_entry ?_⟩))
  rw [Around.under_plainId F.bm_plain _]
  have hT : s.TypeIs (.ref a) "bytearray" := ⟨_, ha, rfl⟩
  unfold Builtin.«bytes.__new__»
  refine wpAny_bind (wpAny_of_eq (a := true) rfl ?_)
  refine bm_if_false rfl ?_
  refine wpAny_bind (wpAny_of_eq F.bm_sub ?_)
  refine bm_if_false rfl ?_
  refine wpAny_bind (wpAny_of_eq (F.bm_bind _) ?_)
  refine wpAny_bind (wpAny_of_eq (a := ()) rfl ?_)
  refine wpAny_bind (wpAny_of_eq (a := ()) rfl ?_)
  refine bm_if_false rfl ?_
  refine wpAny_bind (wpAny_specialOf hT noBytes ?_)
  refine wpAny_bind (wpAny_bind ?_)
  show wpAny _ _ (load a >>= _) _ _ _
  refine wpAny_bind (wpAny_load ha ?_)
  refine wpAny_pure (wpAny_pure ?_)
  refine bm_if_false rfl ?_
  refine wpAny_bind (wpAny_specialOf hT noIndex ?_)
  refine bm_if_true rfl ?_
  first
    | show wpAny _ _ (Builtin.Bytes.buffer? "bytes.__new__" (.ref a) true >>= _) _ _ _
    | (refine wpAny_bind ?_; show wpAny _ _ (Builtin.Bytes.buffer? "bytes.__new__" (.ref a) true >>= _) _ _ _)
  refine wpAny_bind (wBuf ha ?_)
  (try dsimp only)
  refine wpAny_bind (wpAny_rule ?_)
  have hl : (1000 : Nat) ≤ sizeLine := Nat.le_of_ble_eq_true (by decide +kernel)
  refine wpAny_bind ?_
  unfold mkBytes
  rw [if_neg (by omega)]
  refine wpAny_bind (wpAny_fresh (wpAny_pure ?_))
  repeat lk
  all_goals (first | exact hQ _ _ | skip)
theorem wBytes {a : Addr} {b : Array UInt8} {Q : Value → Shared → Prop} (hz : b.size ≤ 1000) (ha : s.heap.get? a = some { cls := .type "bytearray", data := .bytearray b })
    (hQ : ∀ t k, Q (.bytes b t) { s with toks := k }) : wpAny (model prog w) A (call (.type "bytes") [.ref a]) Q E s := by
  refine callType_codes (Q₁ := fun obj s₁ => s₁.TypeIs obj "bytes" ∧ Q obj s₁) F.bm_called (F.bm_typeCall _) F.entry_object_init
    (code_bytes hz ha fun t k => ⟨PySem.W.typeIs_bytes _ _ _, hQ t k⟩) fun obj s₁ h₁ => ?_
  exact ⟨h₁.1, F.args_object_init_2 obj _, object_init_meets F.bm_called.init.lookup F.bm_called.made (by decide) prog w A.in1 _ s₁ ⟨h₁.1, rfl, h₁.2⟩⟩
end
end BA
end
section -- P9
set_option maxHeartbeats 600000
theorem words_P9_1 : True := by
  k_with_none
  w_top off
  k_with "g_enter" => ((
  (have Xᵥ := Base.K (by assumption)); (have Tᵥ := Base.T (by assumption)); revert Tᵥ; revert Xᵥ; k_fill; intro _ _
  k_dflt (refine' enter0G ?k1ᵥ ?k2ᵥ ?k3ᵥ ?k4ᵥ ?k5ᵥ ?k6ᵥ ?k7ᵥ ?k8ᵥ ?k9ᵥ ?k10ᵥ ?_; (case k1ᵥ => assumption); (case k2ᵥ => exact Room.depth (by assumption)); (case k3ᵥ => k_is); (case k4ᵥ => k_is); (case k5ᵥ => first | exact BindsTo.of_eq rfl | exact binds_K (by k_in) rfl (by k_is) rfl rfl rfl | fail "m_enter: no rule for these arguments"); (case k6ᵥ => exact locs rfl); (case k7ᵥ => decide); (case k8ᵥ => exact rfl); (case k9ᵥ => exact rfl); (case k10ᵥ => exact rfl); k_whole; intro _ _ _ _ _; (try dsimp only); (try k_fold))))
  trivial
theorem m_lenb {prog : Program} {w : World} {A : Around} {E : Value → Shared → Prop} {s : Shared} {Q : Value → Shared → Prop} {b : Array UInt8} {t : Tok} {n : Int} (hn : (b.size : Int) = n) (h1 : n ≤ 1000) (h : Q (.int n (s.toks + 1)) { s with toks := s.toks + 1 + 1 }) : wpAny (model prog w) A (call (.builtin "len") [.bytes b t]) Q E s := by
  subst hn; exact len_bytes (by omega) h
theorem newsAdd {g h₁ h' : Heap} {L a : Addr} {m : Str → Option Value} {o : Obj} {news : List (Addr × Obj)} (F : Fr g L h₁ m) (N : News g L h₁ news) (hk : Grows h₁ h') (ha : h'.get? a = some o) (hz : h₁.objs.size ≤ a) : News g L h' ((a, o) :: news) := fun p hp => by
  rcases List.mem_cons.mp hp with rfl | hp
  · refine ⟨ha, fun e => Nat.lt_irrefl a (Nat.lt_of_lt_of_le (show a < h₁.objs.size by have := F.ns.lt; rw [show a = L from e]; exact this) hz), ?_⟩
    cases e : g.get? a with
    | none => rfl
    | some x => exact absurd (Heap.lt_size (F.keep _ _ e)) (Nat.not_lt.mpr hz)
  · exact N.grown hk p hp
noncomputable def swq (c b : Array UInt8) (i wd : Nat) : Nat → Array UInt8
  | 0 => c
  | j + 1 => (swq c b i wd j).setIfInBounds (i + wd - 1 - j) (b.getD (i + j) 0)
@[irreducible] noncomputable def swp (c b : Array UInt8) (i wd j : Nat) : Array UInt8 := swq c b i wd j
theorem swp_zero (c b : Array UInt8) (i wd : Nat) : swp c b i wd 0 = c := by unfold swp; rfl
theorem swp_succ (c b : Array UInt8) (i wd j : Nat) : swp c b i wd (j + 1) = (swp c b i wd j).setIfInBounds (i + wd - 1 - j) (b.getD (i + j) 0) := by unfold swp; rfl
theorem swp_size (c b : Array UInt8) (i wd j : Nat) : (swp c b i wd j).size = c.size := by
  induction j with
  | zero => rw [swp_zero]
  | succ j ih => rw [swp_succ, Array.size_setIfInBounds, ih]
/-- a turn's end: nothing left the loop, and what the ledger and the frame are -/
structure TurnEnd (h₀ : Heap) (L : Addr) (s : Shared) (led own : List (Addr × Obj)) (x : Str) (m₀ : Str → Option Value) (f : Flow) (s₂ : Shared) : Prop where
  out : f = .next ∧ ∃ h' tk' m' news', s₂ = { s with heap := h', toks := tk' } ∧ Fr h₀ L h' m' ∧ News h₀ L h' news' ∧ (∀ p ∈ led, p ∈ news') ∧ (∀ p ∈ own, p ∈ news') ∧ (∀ z, z ≠ x → m' z = m₀ z)
theorem TurnEnd.of {h₀ : Heap} {L : Addr} {s : Shared} {led own news' : List (Addr × Obj)} {x : Str} {m₀ m' : Str → Option Value} {h' : Heap} {tk' : Nat} (F : Fr h₀ L h' m') (N : News h₀ L h' news') (hl : ∀ p ∈ led, p ∈ news') (ho : ∀ p ∈ own, p ∈ news') (hm : ∀ z, z ≠ x → m' z = m₀ z) : TurnEnd h₀ L s led own x m₀ .next { s with heap := h', toks := tk' } :=
  ⟨rfl, _, _, _, _, rfl, F, N, hl, ho, hm⟩
noncomputable abbrev ba (c : Array UInt8) : Obj := { cls := .type "bytearray", data := .bytearray c }
section
variable {prog : Program} {w : World} {A : Around} {E : Value → Shared → Prop} {s : Shared} {env : Env} {h₀ : Heap} {x : Str} {body : List Stmt} {Q : Flow → Shared → Prop}
theorem m_loop {D : Addr} {rest : List (Addr × Obj)} {c0 : Array UInt8} (b : Array UInt8) (i wd : Nat) {r : Addr} {b₀ : Int} {t₀ u₀ v₀ : Tok} {m₀ : Str → Option Value}
    (hh : A.handled = none) (hr : IsRange s.heap r 0 b₀ 1 t₀ u₀ v₀) (hb : b₀ = (wd : Int)) (hsmall : wd ≤ 1000) (F : Fr h₀ env.locals s.heap m₀) (N : News h₀ env.locals s.heap ((D, ba c0) :: rest)) (hrest : ∀ p ∈ rest, p.2.cls ≠ .type "bytearray")
    (turn : ∀ (j : Nat) t h tk own, j < wd → (∀ p ∈ rest ++ own, p.1 ≠ D) →
      Fr h₀ env.locals h (fun y => if y = x then some (.int (j : Int) t) else m₀ y) → News h₀ env.locals h ((D, ba (swp c0 b i wd j)) :: (rest ++ own)) →
      wpAny (model prog w) A (execs body env) (TurnEnd h₀ env.locals s ((D, ba (swp c0 b i wd (j + 1))) :: rest) own x m₀) E { s with heap := h, toks := tk })
    (done : ∀ (u : Str → Option Value) h tk, Fr h₀ env.locals h (fun y => if y = x then u y else m₀ y) → News h₀ env.locals h ((D, ba (swp c0 b i wd wd)) :: rest) → Q .next { s with heap := h, toks := tk }) :
    wpAny (model prog w) A (pyIter (.ref r)) (fun it s₂ => LoopAtV prog w A h₀ env x body Q E it s₂) E s := by
  subst hb
  refine kst_range (σ := Array UInt8) (fun c => (D, ba c) :: rest) (fun _ => []) (fun _ => True) [] (fun pre c => c = swp c0 b i wd pre.length) c0 hh hr (by first | exact small_one (by omega) (by omega) (by omega) (by omega) | (simp [Builtin.Range.small]; omega)) (n := wd) (by simp [Builtin.Range.rangeSize]; omega) F N trivial (fun _ hp => nomatch hp) (swp_zero c0 b i wd).symm ?_ ?_
  · intro c pre k t u h tk own hk hlt hoff _ hc F₁ N₁
    subst hc
    obtain rfl : k = (pre.length : Int) := by omega
    have F₂ : Fr h₀ env.locals h (fun y => if y = x then some (.int (pre.length : Int) t) else m₀ y) := F₁
    have hne : ∀ p ∈ rest ++ own, p.1 ≠ D := by
      intro p hp e
      rcases List.mem_append.mp hp with hp | hp
      · have h1 := (N₁ p (List.mem_append_left _ (.tail _ hp))).1
        have h2 := (N₁ (D, ba (swp c0 b i wd pre.length)) (List.mem_append_left _ (.head _))).1
        rw [e] at h1
        have h3 := Option.some.inj (h1.symm.trans h2)
        exact hrest p hp (by rw [h3])
      · exact hoff p hp D (.head _) e
    refine wpAny_mono (turn pre.length t h tk own hlt hne F₂ N₁) (fun f s₂ => ?_) fun _ _ x => x
    rintro ⟨rfl, h', tk', m', news', rfl, F', N', hn, ho, hm⟩
    exact kst_end (s₁ := { s with heap := h, toks := tk }) (swp c0 b i wd (pre.length + 1)) F' N' hn ho rfl trivial (fun _ hp => nomatch hp) (fun z hz _ _ => hm z hz) (by simp)
  · intro c u h tk _ hc F₁ N₁
    subst hc
    have e : (rangeKs 0 wd).length = wd := rangeKs_length _ _
    rw [e] at N₁
    exact done u h tk F₁ N₁
end
section
variable {prog : Program} {w : World} {A : Around} {E : Value → Shared → Prop} {s : Shared}
theorem m_getb {b : Array UInt8} {z : Int} {t u : Tok} {Q : Value → Shared → Prop} (hs : b.size ≤ 1000) (h0 : 0 ≤ z) (h1 : z < b.size) (h : Q (.int ((b.getD z.toNat 0).toNat : Nat) s.toks) { s with toks := s.toks + 1 }) : wpAny (model prog w) A (getItem (.bytes b t) (.int z u)) Q E s := by
  obtain ⟨l⟩ := b
  refine getItem_bytes (by simp at hs; omega) h0 (by simpa using h1) ?_
  have e : l.toArray.getD z.toNat 0 = l.getD z.toNat 0 := by simp [Array.getD_eq_getD_getElem?, List.getD_eq_getElem?_getD]
  rw [← e]; exact h
theorem m_set {D : Addr} {c : Array UInt8} {rest : List (Addr × Obj)} {h₀ : Heap} {L : Addr} {m : Str → Option Value} {z : Int} {x : UInt8} {t tx : Tok} {Q : Unit → Shared → Prop} (F : Fr h₀ L s.heap m) (N : News h₀ L s.heap ((D, ba c) :: rest)) (hne : ∀ p ∈ rest, p.1 ≠ D) (hz : c.size ≤ 1000) (h0 : 0 ≤ z) (h1 : z < c.size)
    (h : ∀ h', Fr h₀ L h' m → News h₀ L h' ((D, ba (c.setIfInBounds z.toNat x)) :: rest) → Q () { s with heap := h' }) : wpAny (model prog w) A (setItem (.ref D) (.int z t) (.int (x.toNat : Nat) tx)) Q E s := by
  obtain ⟨k, rfl⟩ : ∃ k : Nat, z = k := ⟨z.toNat, by omega⟩
  obtain ⟨n1, n2, n3⟩ := N _ (.head _)
  refine BA.wSet n1 (by omega) hz fun h' e' _ k' => h h' ⟨F.ns.at' fun o e => (k' L n2.symm).trans e, fun b o e => (k' b fun eb => by subst eb; rw [n3] at e; cases e).trans (F.keep b o e), F.above⟩ fun p hp => ?_
  rcases List.mem_cons.mp hp with rfl | hp
  · exact ⟨e', n2, n3⟩
  · exact ⟨(k' _ (hne p hp)).trans (N p (.tail _ hp)).1, (N p (.tail _ hp)).2⟩
end
theorem words_P9_2 : True := by
  k_with "call builtin:len" => (((with_reducible show wpAny _ _ (call (Value.builtin "len") [Value.bytes _ _]) _ _ _); (refine m_lenb (by assumption) (by decide) ?_)))
  k_with "subscriptTail Name BinOp bytes int" => ((refine subscriptTail_builtin (typeIs_bytes _ _ _) FB.slot_bytes_getitem.lookup (m_getb (by omega) (by omega) (by omega) ?_)))
  k_with "exec For Name Call cons nil" => (((with_reducible show wpAny _ _ (exec (Stmt.For (PySem.Expr.Name (PySem.Str.ofString "j") _) _ _ _ _) _) _ _ _); (rename Fr _ _ _ _ => lF'ᵥ); (with_unfolding_all refine' For_invVF lF'ᵥ ?k1ᵥ ?k2ᵥ ?_; (case k1ᵥ => exact rfl); (case k2ᵥ => exact rfl); k_whole)))
  trivial
theorem news_swap {h₀ h : Heap} {L : Addr} {p q : Addr × Obj} {rest : List (Addr × Obj)} (N : News h₀ L h (p :: q :: rest)) : News h₀ L h (q :: p :: rest) := fun x hx => N x (by
  rcases List.mem_cons.mp hx with rfl | hx
  · exact .tail _ (.head _)
  · rcases List.mem_cons.mp hx with rfl | hx
    · exact .head _
    · exact .tail _ (.tail _ hx))
theorem words_P9_3 : True := by
  k_with "pyIter ref" => (((with_reducible show wpAny _ _ (pyIter (Value.ref _)) (fun _ _ => LoopAtV _ _ _ _ _ _ _ _ _ _ _) _ _); (rename IsRange _ _ _ _ _ _ _ _ => rgX'ᵥ); (first | (have rgXᵥ := (show IsRange _ _ 0 8 1 _ _ _ from rgX'ᵥ)) | (have rgXᵥ := (show IsRange _ _ 0 64 1 _ _ _ from rgX'ᵥ))); refine unstop ?_)); (try (revert rgXᵥ; intro _))
  k_with "setItem ref int int" => ((refine m_set (by k_asm) (by k_asm) (by assumption) (by rw [swp_size]; (first | decide | (rw [swp_size]; decide))) (by omega) (by rw [swp_size]; (first | (simp; omega) | (rw [swp_size]; simp; omega))) ?_; intro _ _ _))
  trivial
theorem turn_ix {a w j : Nat} (h : j < w) : a + w - 1 - j = ((a : Int) + (w : Int) - 1 - (j : Int)).toNat := by omega
theorem memTurn {D : Addr} {c : Array UInt8} {k k' : Nat} {v v' : UInt8} {l : List (Addr × Obj)} (hk : k = k') (hv : v = v') : (D, ba (c.setIfInBounds k v)) ∈ (D, ba (c.setIfInBounds k' v')) :: l := by subst hk hv; exact .head _
theorem m_bytes {prog : Program} {w : World} {A : Around} {E : Value → Shared → Prop} {s : Shared} {Q : Value → Shared → Prop} {h₀ : Heap} {L D : Addr} {news : List (Addr × Obj)} {c : Array UInt8} (N : News h₀ L s.heap news) (hm : (D, ba c) ∈ news) (hz : c.size ≤ 1000) (hQ : ∀ t k, Q (.bytes c t) { s with toks := k }) : wpAny (model prog w) A (call (.type "bytes") [.ref D]) Q E s :=
  BA.wBytes hz (N _ hm).1 hQ
theorem words_P9_4 : True := by
  k_with "call type:bytes" => ((refine m_bytes (by k_asm) (by k_mem) (by (repeat rw [swp_size]); decide) ?_; intro _ _))
  trivial
theorem fn_bs16 (w : World) (mean : ExcName → Option Value) (mg mb : Str → Option Value) (b : Array UInt8) (tb tw : Tok) (hb : (b.size : Int) = 16) :
   FnG w mean mg mb 10 232 [.bytes b tb, .int 8 tw] (fun _ => True) (fun h v h' => ∃ t, v = .bytes (swp (swp (Array.replicate 16 0) b 0 8 8) b 8 8 8) t) := by
  refine FnG.intro fun dp fr gd un g gs dr tk os Q E r B hp ret => ?_
  walk_at "g_enter"
  refine gExecsCons (gAssignName ?_ (by rfl))
  refine gCallName ?_
  k_steps
  refine gCallWithT rfl (gArgs rfl (gAny ?_))
  k_steps
  refine gSplicedNil ?_
  refine BA.gCallBA (n := 16) (by decide) (by decide) ?_
  intro D h₁ tk₁ eD hD zD kD
  have hG : Grows _ h₁ := fun c o e => (kD c (Nat.ne_of_lt (by rw [← eD]; exact Heap.lt_size e))).trans e
  (rename Fr _ _ _ _ => F0); (rename News _ _ _ _ => N0)
  have N1 := newsAdd F0 N0 hG hD (Nat.le_of_eq eD)
  have F1 := F0.grownK hG
  clear F0 N0 hG kD eD zD hD
  k_steps
  refine gAny ?_
  (try dsimp only)
  k_steps
  unfold Stop
  (rename Fr _ _ _ _ => lF'); (rename News _ _ _ _ => lN'); (rename IsRange _ _ _ _ _ _ _ _ => rgX)
  refine m_loop (rest := [(_, krsIt _ _ _)]) (c0 := Array.replicate 16 0) b 0 8 rfl rgX rfl (by decide) lF' (news_swap lN') (by intro p hp; obtain rfl := List.mem_singleton.mp hp; simp [krsIt]) ?_ ?_
  · clear lF' lN' rgX
    intro j' t' h' tk' own' hj' hne' F' N'
    k_steps
    (rename Fr _ _ _ _ => F2); (rename News _ _ _ _ => N2)
    refine TurnEnd.of F2 N2 ?_ (fun p hp => .tail _ (List.mem_append_right _ hp)) fun z hz => if_neg hz
    intro p hp
    rcases List.mem_cons.mp hp with rfl | hp
    · rw [swp_succ _ _ _ _ j']
      refine memTurn ?_ ?_
      · exact turn_ix hj'
      · first | (congr 1; done) | (congr 1; omega)
    · exact .tail _ (List.mem_append_left _ hp)
  intro u' h' tk' F' N'
  clear lF' lN' rgX
  k_steps
  unfold Stop
  (rename Fr _ _ _ _ => lF'); (rename News _ _ _ _ => lN'); (rename IsRange _ _ _ _ _ _ _ _ => rgX)
  refine m_loop (rest := [(_, krsIt _ _ _)]) (c0 := swp (Array.replicate 16 0) b 0 8 8) b 8 8 rfl rgX rfl (by decide) lF' (news_swap lN') (by intro p hp; obtain rfl := List.mem_singleton.mp hp; simp [krsIt]) ?_ ?_
  · clear lF' lN' rgX
    intro j' t' h' tk' own' hj' hne' F' N'
    k_steps
    (rename Fr _ _ _ _ => F2); (rename News _ _ _ _ => N2)
    refine TurnEnd.of F2 N2 ?_ (fun p hp => .tail _ (List.mem_append_right _ hp)) fun z hz => if_neg hz
    intro p hp
    rcases List.mem_cons.mp hp with rfl | hp
    · rw [swp_succ _ _ _ _ j']
      refine memTurn ?_ ?_
      · exact turn_ix hj'
      · first | (congr 1; done) | (congr 1; omega)
    · exact .tail _ (List.mem_append_left _ hp)
  intro u' h' tk' F' N'
  clear lF' lN' rgX
  k_steps
  exact ret _ _ _ (Fr.keep (by assumption)) ⟨_, rfl⟩
theorem fn_bs64 (w : World) (mean : ExcName → Option Value) (mg mb : Str → Option Value) (b : Array UInt8) (tb tw : Tok) (hb : (b.size : Int) = 64) :
   FnG w mean mg mb 10 232 [.bytes b tb, .int 64 tw] (fun _ => True) (fun h v h' => ∃ t, v = .bytes (swp (Array.replicate 64 0) b 0 64 64) t) := by
  refine FnG.intro fun dp fr gd un g gs dr tk os Q E r B hp ret => ?_
  walk_at "g_enter"
  refine gExecsCons (gAssignName ?_ (by rfl))
  refine gCallName ?_
  k_steps
  refine gCallWithT rfl (gArgs rfl (gAny ?_))
  k_steps
  refine gSplicedNil ?_
  refine BA.gCallBA (n := 64) (by decide) (by decide) ?_
  intro D h₁ tk₁ eD hD zD kD
  have hG : Grows _ h₁ := fun c o e => (kD c (Nat.ne_of_lt (by rw [← eD]; exact Heap.lt_size e))).trans e
  (rename Fr _ _ _ _ => F0); (rename News _ _ _ _ => N0)
  have N1 := newsAdd F0 N0 hG hD (Nat.le_of_eq eD)
  have F1 := F0.grownK hG
  clear F0 N0 hG kD eD zD hD
  k_steps
  refine gAny ?_
  (try dsimp only)
  k_steps
  unfold Stop
  (rename Fr _ _ _ _ => lF'); (rename News _ _ _ _ => lN'); (rename IsRange _ _ _ _ _ _ _ _ => rgX)
  refine m_loop (rest := [(_, krsIt _ _ _)]) (c0 := Array.replicate 64 0) b 0 64 rfl rgX rfl (by decide) lF' (news_swap lN') (by intro p hp; obtain rfl := List.mem_singleton.mp hp; simp [krsIt]) ?_ ?_
  · clear lF' lN' rgX
    intro j' t' h' tk' own' hj' hne' F' N'
    k_steps
    (rename Fr _ _ _ _ => F2); (rename News _ _ _ _ => N2)
    refine TurnEnd.of F2 N2 ?_ (fun p hp => .tail _ (List.mem_append_right _ hp)) fun z hz => if_neg hz
    intro p hp
    rcases List.mem_cons.mp hp with rfl | hp
    · rw [swp_succ _ _ _ _ j']
      refine memTurn ?_ ?_
      · exact turn_ix hj'
      · first | (congr 1; done) | (congr 1; omega)
    · exact .tail _ (List.mem_append_left _ hp)
  intro u' h' tk' F' N'
  clear lF' lN' rgX
  k_steps
  exact ret _ _ _ (Fr.keep (by assumption)) ⟨_, rfl⟩
end
section -- P6
theorem words_P6_0 : True := by
  k_with_none
  w_top off
  trivial
set_option maxHeartbeats 4000000
section
open Builtin
variable {b : Array UInt8} {c : UInt8} {cs : List UInt8} {t : Tok} {x : PySem.Str} {n : Nat}
theorem road_ascii {id : String} : _codecs.decodeRoad id b (PySem.Str.ofString "ascii") none [] = (_codecs.runDecoder id _codecs.asciiDecoder none true b 0 [] >>= fun r => mkStr ⟨r.1⟩) := by kernel_rfl
theorem meets_asc {t1 t2 : Tok} {d : PySem.Str} (hd : ∀ id, _codecs.runDecoder id _codecs.asciiDecoder none true b 0 [] = pure (x.cps, n)) :
    Meets («_codecs.decode.text» ⟨[.bytes b t, .str (PySem.Str.ofString "ascii") t1, .none, .str d t2], []⟩) (fun _ R s => x.length ≤ sizeLine ∧ R (.ok (.ret (.str x s.toks))) { s with toks := s.toks + 1 }) := by
  refine .of_wp fun prog w A R s hS => ?_
  obtain ⟨hsz, h⟩ := hS
  show wpAny _ _ (Bytes.bytesLike _ (.bytes b t) >>= fun r => _) _ _ s
  refine wpAny_bind (wpAny_of_eq KBd.like_eq ?_)
  refine wpAny_bind (wpAny_of_eq KBd.held_eq ?_)
  show wpAny _ _ (_codecs.decodeRoad _ b (PySem.Str.ofString "ascii") none [] >>= fun v => _) _ _ s
  rw [road_ascii, hd]
  refine wpAny_bind (wpAny_bind (wpAny_pure ?_))
  exact wpAny_mkStr (wpAny_pure ⟨_, rfl, h⟩) hsz
theorem dec_entry {t2 : Tok} : «bytes.decode» ⟨[.bytes (c :: cs).toArray t, .str (PySem.Str.ofString "ascii") t2], []⟩ = (mkStr (PySem.Str.ofString "utf-8") >>= fun _ => mkStr (PySem.Str.ofString "ascii") >>= fun e => mkStr (PySem.Str.ofString "bytes.decode") >>= fun d =>
    call (.builtin "_codecs.decode.text") [.bytes (c :: cs).toArray t, e, .none, d] >>= fun v => ret v) := by kernel_rfl
theorem args_dec2 (a b : Value) : argsOk "bytes.decode" ⟨[a, b], []⟩ := by unfold argsOk; kernel_rfl
theorem m_dec {prog : Program} {w : World} {A : Around} {E : Value → Shared → Prop} {s : Shared} {Q : Value → Shared → Prop} {t2 : Tok} (hd : ∀ id, _codecs.runDecoder id _codecs.asciiDecoder none true (c :: cs).toArray 0 [] = pure (x.cps, n)) (hsz : x.length ≤ sizeLine) (h : ∀ t' k, Q (.str x t') { s with toks := k }) :
    wpAny (model prog w) A (call (.builtin "bytes.decode") [.bytes (c :: cs).toArray t, .str (PySem.Str.ofString "ascii") t2]) Q E s := by
  refine wpAny_call (codeAny_call_builtin FB.slot_bytes_decode.plain FB.entry_bytes_decode (FB.slot_bytes_decode.check _ _ _ _ _ _ _ _ (typeIs_bytes _ _ _) (args_dec2 _ _) ?_))
  rw [dec_entry]
  refine wpAny_bind (wpAny_mkStr ?_ (by decide))
  refine wpAny_bind (wpAny_mkStr ?_ (by decide))
  refine wpAny_bind (wpAny_mkStr ?_ (by decide))
  exact wpAny_bind (call_function_meets KBd.kind_text KBd.plain_text KBd.entry_text (KBd.args_text _ _ _ _) (meets_asc hd) ⟨hsz, wpAny_pure (by (try refine ⟨_, rfl, ?_⟩); exact h _ _)⟩)
example (id) : _codecs.runDecoder id _codecs.asciiDecoder none true #[40,34,41,41,92,34,41,34] 0 [] = pure (#[40,34,41,41,92,34,41,34], 8) := by kernel_rfl
end
end
section -- CF
set_option maxHeartbeats 4000000
/-! the eight texts that a cell may be -/
noncomputable def cellsL : List Str := [⟨#[40, 34, 41, 41, 92, 34, 41, 34]⟩, ⟨#[34, 41, 41, 92, 34, 41, 34, 40]⟩, ⟨#[41, 34, 40, 40, 92, 34, 40, 34]⟩, ⟨#[34, 40, 40, 92, 34, 40, 34, 41]⟩,
  ⟨#[34, 41, 34, 92, 41, 41, 34, 40]⟩, ⟨#[40, 34, 41, 34, 92, 41, 41, 34]⟩, ⟨#[34, 40, 34, 92, 40, 40, 34, 41]⟩, ⟨#[41, 34, 40, 34, 92, 40, 40, 34]⟩]
noncomputable def rvs (x : Str) : Str := Txt.sliceBy x none none (-1, 0)
theorem cf_forms : [Str.ofString "(\"))\\\")\"", Str.ofString "\"))\\\")\"(", Str.ofString ")\"((\\\"(\"", Str.ofString "\"((\\\"(\")"].all cellsL.contains = true := by decide +kernel
theorem cf_rev : cellsL.all (fun x => cellsL.contains (rvs x) && rvs (rvs x) == x) = true := by decide +kernel
theorem cf_sz : cellsL.all (fun x => x.cps.size == 8 && asc x && okB (enc x)) = true := by decide +kernel
theorem cf_dpt : cellsL.all (fun x => (dpt x == 1 || dpt x == -1) && dpt (rvs x) == - dpt x) = true := by decide +kernel
noncomputable def both (x y : Str) : Array UInt8 := swp (swp (Array.replicate 16 0) (enc (x ++ y)) 0 8 8) (enc (x ++ y)) 8 8 8
theorem cf_swap : cellsL.all (fun x => cellsL.all fun y => KBy.picked (both x y) (some 0) (some 8) == enc (rvs x) && KBy.picked (both x y) (some 8) (some 16) == enc (rvs y) && asc (x ++ y) && (x ++ y).cps.size == 16) = true := by
  unfold both
  decide +kernel
theorem mem_all {α : Type} {p : α → Bool} {xs : List α} (h : xs.all p = true) {x : α} (hx : x ∈ xs) : p x = true := List.all_eq_true.1 h _ hx
theorem cell_of {x : Str} (h : x ∈ cellsL) : Cell x := by
  have := mem_all cf_sz h
  simp only [Bool.and_eq_true, beq_iff_eq] at this
  exact ⟨this.1.1, this.1.2, this.2⟩
theorem rvs_mem {x : Str} (h : x ∈ cellsL) : rvs x ∈ cellsL ∧ rvs (rvs x) = x := by
  have := mem_all cf_rev h
  simp only [Bool.and_eq_true, beq_iff_eq] at this
  exact ⟨List.contains_iff_mem.mp this.1, this.2⟩
theorem dpt_of {x : Str} (h : x ∈ cellsL) : (dpt x = 1 ∨ dpt x = -1) ∧ dpt (rvs x) = - dpt x := by
  have := mem_all cf_dpt h
  simp only [Bool.and_eq_true, Bool.or_eq_true, beq_iff_eq] at this
  exact this
theorem swap_of {x y : Str} (hx : x ∈ cellsL) (hy : y ∈ cellsL) : KBy.picked (both x y) (some 0) (some 8) = enc (rvs x) ∧ KBy.picked (both x y) (some 8) (some 16) = enc (rvs y) ∧ asc (x ++ y) = true ∧ (x ++ y).cps.size = 16 := by
  have := mem_all (mem_all cf_swap hx) hy
  simp only [Bool.and_eq_true, beq_iff_eq] at this
  exact ⟨this.1.1.1, this.1.1.2, this.1.2, this.2⟩
theorem dec_of {x : Str} (h : x ∈ cellsL) : ∃ c cs n, enc x = (c :: cs).toArray ∧ ∀ id, Builtin._codecs.runDecoder id Builtin._codecs.asciiDecoder none true (c :: cs).toArray 0 [] = pure (x.cps, n) := by
  simp only [cellsL, List.mem_cons, List.not_mem_nil, or_false] at h
  rcases h with rfl | rfl | rfl | rfl | rfl | rfl | rfl | rfl <;> exact ⟨_, _, 8, rfl, fun id => by kernel_rfl⟩
end
section -- G1
set_option maxHeartbeats 1000000
open PyProof.Rows.LCg
/-- a list of lists of ints, by its rows' addresses, values and ints -/
structure Grid (h : Heap) (t : Addr) (n : Nat) (ra : Nat → Addr) (rv : Nat → List Value) (rn : Nat → List Int) : Prop where
  top : h.IsList t ((List.range n).map fun i => Value.ref (ra i)).toArray
  row : ∀ i, i < n → h.IsList (ra i) (rv i).toArray
  int : ∀ i, i < n → IntsAre (rv i) (rn i)
section
variable {prog : Program} {w : World} {A : Around} {E : Value → Shared → Prop} {s : Shared} {Q : Value → Shared → Prop} {h₀ : Heap} {L : Addr} {m : Str → Option Value} {t : Addr} {n : Nat} {ra : Nat → Addr} {rv : Nat → List Value} {rn : Nat → List Int} {value slice : Expr} {k : Int} {u : Tok} {i : Nat}
theorem words_G1_1 : True := by
  k_with_none
  w_top off
  k_with "m_enterC" => ((
  (have Xᵥ := Base.K (by assumption)); (have Tᵥ := Base.T (by assumption)); revert Tᵥ; revert Xᵥ; k_fill; intro _ _
  k_dflt (refine' enterC ?k1ᵥ ?k2ᵥ ?k3ᵥ ?k4ᵥ ?k5ᵥ ?k6ᵥ ?k7ᵥ ?k8ᵥ ?k9ᵥ ?k10ᵥ ?_; (case k1ᵥ => assumption); (case k2ᵥ => exact Room.depth (by assumption)); (case k3ᵥ => k_is); (case k4ᵥ => k_is); (case k5ᵥ => first | exact BindsTo.of_eq rfl | exact binds_K (by k_in) rfl (by k_is) rfl rfl rfl | fail "m_enter: no rule for these arguments"); (case k6ᵥ => exact rfl); (case k7ᵥ => decide +kernel); (case k8ᵥ => exact rfl); (case k9ᵥ => exact rfl); (case k10ᵥ => exact rfl); k_whole; intro _ _ _ _ _ N'ᵥ Y'ᵥ; k_cells Y'ᵥ; (try simp only [List.cons_append, List.nil_append] at N'ᵥ); (try dsimp only); (try k_fold)))); (try (revert N'ᵥ; intro _)); (try (revert Y'ᵥ; intro _))
  trivial
theorem g_len (F : Fr h₀ L s.heap m) (G : Grid h₀ t n ra rv rn) (hz : n ≤ 1000) (h : Q (.int (n : Int) (s.toks + 1)) { s with toks := s.toks + 1 + 1 }) : wpAny (model prog w) A (call (.builtin "len") [.ref t]) Q E s := by
  refine len_list (G.top.at fun o e => F.keep _ o e) (by simp; omega) ?_
  rw [List.size_toArray, List.length_map, List.length_range]; exact h
theorem g_rlen (F : Fr h₀ L s.heap m) (G : Grid h₀ t n ra rv rn) (hi : i < n) (hz : (rn i).length ≤ 1000) (h : Q (.int ((rn i).length : Int) (s.toks + 1)) { s with toks := s.toks + 1 + 1 }) : wpAny (model prog w) A (call (.builtin "len") [.ref (ra i)]) Q E s := by
  have e := (G.int i hi).length
  refine len_list ((G.row i hi).at fun o e => F.keep _ o e) (by simp; omega) ?_
  rw [List.size_toArray, e]; exact h
theorem g_top (F : Fr h₀ L s.heap m) (G : Grid h₀ t n ra rv rn) (h0 : 0 ≤ k) (h1 : k < n) (hz : n ≤ 1000) (h : Q (.ref (ra k.toNat)) s)
    (hs : subscripted slice false (.ref t) (.int k u) = operate [.ref t, .int k u] (getItem (.ref t) (.int k u))) (hg : ∀ r, letTemporaryGo value (.ref t) r = pure ()) :
    wpAny (model prog w) A (subscriptTail value slice (.ref t) (.int k u)) Q E s := by
  refine item_list (G.top.at fun o e => F.keep _ o e) h0 (by omega) ?_ h hs hg
  have : k.toNat < n := by omega
  simp [this]
theorem g_row (F : Fr h₀ L s.heap m) (G : Grid h₀ t n ra rv rn) (hi : i < n) (h0 : 0 ≤ k) (h1 : k < ((rn i).length : Int)) (hz : (rn i).length ≤ 1000) (h : ∀ tv, Q (.int ((rn i).getD k.toNat 0) tv) s)
    (hs : subscripted slice false (.ref (ra i)) (.int k u) = operate [.ref (ra i), .int k u] (getItem (.ref (ra i)) (.int k u))) (hg : ∀ r, letTemporaryGo value (.ref (ra i)) r = pure ()) :
    wpAny (model prog w) A (subscriptTail value slice (.ref (ra i)) (.int k u)) Q E s := by
  have e := (G.int i hi).length
  have hlt : k.toNat < (rv i).length := by omega
  obtain ⟨tv, htv⟩ : ∃ tv, (rv i)[k.toNat]? = some (.int ((rn i).getD k.toNat 0) tv) := by
    have key : ∀ {vs : List Value} {ns : List Int} (j : Nat), IntsAre vs ns → j < ns.length → ∃ tv, vs[j]? = some (.int (ns.getD j 0) tv) := by
      intro vs ns j hi hj
      induction hi generalizing j with
      | nil => exact absurd hj (Nat.not_lt_zero _)
      | cons a b c ih =>
        cases j with
        | zero => exact ⟨_, rfl⟩
        | succ j => obtain ⟨tv, h⟩ := ih j (by simpa using hj); exact ⟨tv, by simpa using h⟩
    exact key _ (G.int i hi) (by omega)
  exact item_list ((G.row i hi).at fun o e => F.keep _ o e) h0 (by omega) (by simpa using htv) (h tv) hs hg
end
noncomputable def pairsOf (n : Nat) (rn : Nat → List Int) : List (Nat × Nat) := (List.range (n - 1)).flatMap fun r => ((List.range (rn (r + 1)).length).filter fun c => decide ((rn r).getD c 0 > (rn (r + 1)).getD c 0)).map fun c => (r, c)
noncomputable def rowP (rn : Nat → List Int) (r j : Nat) : List (Nat × Nat) := ((List.range j).filter fun c => decide ((rn r).getD c 0 > (rn (r + 1)).getD c 0)).map fun c => (r, c)
noncomputable def firstP (rn : Nat → List Int) (i : Nat) : List (Nat × Nat) := (List.range i).flatMap fun r => rowP rn r (rn (r + 1)).length
theorem words_G1_2 : True := by
  k_with "call builtin:len" => (((with_reducible show wpAny _ _ (call (Value.builtin "len") [Value.ref _]) _ _ _); first | (refine g_len (by k_asm) (by assumption) (by omega) ?_) | (refine g_rlen (by k_asm) (by assumption) (by omega) (by omega) ?_)))
  k_with "subscriptTail" => (((with_reducible show wpAny _ _ (subscriptTail _ _ (Value.ref _) (Value.int _ _)) _ _ _); first | (refine g_top (by k_asm) (by assumption) (by omega) (by omega) (by omega) ?_ (by with_unfolding_all rfl) (by intro _; with_unfolding_all rfl); (try simp only [tn0, tn1])) | (refine g_row (by k_asm) (by assumption) (by omega) (by omega) (by omega) (by omega) ?_ (by with_unfolding_all rfl) (by intro _; with_unfolding_all rfl); intro _; (try simp only [tn0, tn1]))))
  trivial
theorem firstP_succ (rn : Nat → List Int) (i : Nat) : firstP rn (i + 1) = firstP rn i ++ rowP rn i (rn (i + 1)).length := by
  unfold firstP
  rw [List.range_succ, List.flatMap_append, List.flatMap_singleton]
theorem rowP_yes {rn : Nat → List Int} {r j : Nat} (h : (rn r).getD j 0 > (rn (r + 1)).getD j 0) : rowP rn r (j + 1) = rowP rn r j ++ [(r, j)] := by
  unfold rowP
  rw [List.range_succ, List.filter_append, List.map_append]
  simp only [List.filter_cons, List.filter_nil, decide_eq_true h, if_true, List.map_cons, List.map_nil]
theorem rowP_no {rn : Nat → List Int} {r j : Nat} (h : ¬ (rn r).getD j 0 > (rn (r + 1)).getD j 0) : rowP rn r (j + 1) = rowP rn r j := by
  unfold rowP
  rw [List.range_succ, List.filter_append, List.map_append]
  simp only [List.filter_cons, List.filter_nil, decide_eq_false h, Bool.false_eq_true, if_false, List.map_nil, List.append_nil]
noncomputable abbrev tup2 (p : Nat × Nat) (t u : Tok) : Obj := { cls := .type "tuple", data := .seq #[.int (p.1 : Int) t, .int (p.2 : Int) u] }
noncomputable def TupsIn (ps : List (Nat × Nat)) (ys : List Value) (news : List (Addr × Obj)) : Prop := ys.length = ps.length ∧ ∀ (i : Nat) (p : Nat × Nat), ps[i]? = some p → ∃ (T : Addr) (t u : Tok), ys[i]? = some (Value.ref T) ∧ (T, tup2 p t u) ∈ news
theorem TupsIn.snoc {ps : List (Nat × Nat)} {ys : List Value} {news : List (Addr × Obj)} (h : TupsIn ps ys news) (p : Nat × Nat) (T : Addr) (t u : Tok) : TupsIn (ps ++ [p]) (ys ++ [Value.ref T]) ((T, tup2 p t u) :: news) := by
  refine ⟨by rw [List.length_append, List.length_append, h.1, List.length_singleton, List.length_singleton], fun i q e => ?_⟩
  by_cases hi : i < ps.length
  · rw [List.getElem?_append_left hi] at e
    obtain ⟨T', t', u', h1, h2⟩ := h.2 i q e
    exact ⟨T', t', u', by rw [List.getElem?_append_left (by rw [h.1]; exact hi)]; exact h1, .tail _ h2⟩
  · rw [List.getElem?_append_right (by omega)] at e
    have hz : i - ps.length = 0 := by
      cases e' : i - ps.length with
      | zero => rfl
      | succ n => rw [e'] at e; cases e
    rw [hz] at e
    obtain rfl := Option.some.inj e
    refine ⟨T, t, u, ?_, .head _⟩
    rw [List.getElem?_append_right (by rw [h.1]; omega), h.1, hz]
    rfl
inductive PrI (c : Addr × Obj) (k : Nat) (ps : List (Nat × Nat)) (ys : List Value) (news : List (Addr × Obj)) : Prop
  | mk (more : List (Addr × Obj)) (en : news = c :: more) (hlen : ys.length ≤ k) (hT : TupsIn ps ys more)
theorem pairs_range {n : Nat} (h : 1 ≤ n) (h8 : n ≤ 8) : Builtin.Range.small 0 ((n : Int) - 1) 1 = true ∧ Builtin.Range.rangeSize 0 ((n : Int) - 1) 1 = ((n - 1 : Nat) : Int) := by
  have e : (n : Int) - 1 = ((n - 1 : Nat) : Int) := by omega
  rw [e]
  exact range_ok _ (by omega)
theorem fn_pairs (w : World) (mean : ExcName → Option Value) (mg mb : Str → Option Value) (t : Addr) (n : Nat) (ra : Nat → Addr) (rv : Nat → List Value) (rn : Nat → List Int) (hn : 1 ≤ n ∧ n ≤ 8) (hz : ∀ i, i < n → (rn i).length ≤ 8) (hl : ∀ i, i + 1 < n → (rn (i + 1)).length ≤ (rn i).length) :
   Fn w mean mg mb 10 283 [.ref t] (fun h => Grid h t n ra rv rn) (fun h v h' => ∃ D ys more, v = .ref D ∧ Above h h' ((D, LCg.lst ys) :: more) ∧ TupsIn (firstP rn (n - 1)) ys more) := by
  refine Fn.intro fun dp fr gd un g gs dr tk os Q E r B G ret => ?_
  walk_at "m_enterC"
  (rename Fr _ _ _ _ => F00); (have F01 := (show Fr g _ _ (fun _ => none) from F00)); clear F00
  (rename _ = Data.cell _ => hd0); (have hd1 := (show _ = Data.cell (some (Value.ref t)) from hd0)); clear hd0
  k_steps
  refine cc_ListComp F01 rfl (by intro _ _; rfl) (by with_unfolding_all rfl) (by decide) rfl (by decide) rfl rfl rfl ?_ (by intro _; rfl)
  k_steps
  (rename Fr _ _ _ _ => F1); (rename News _ _ _ _ => N1); (rename IsRange _ _ _ _ _ _ _ _ => hR)
  refine .rng _ 0 _ _ _ _ (n - 1) _ rfl F1 N1 hR (pairs_range hn.1 hn.2).1 (pairs_range hn.1 hn.2).2 ?_
  rintro s₂ ⟨h₂, rfl⟩
  refine Rest1.ind (n - 1) (fun i => PrI (_, _) (8 * i) (firstP rn i)) ?fin ?step (n - 1) 0 [] _ (by omega) ⟨[], rfl, Nat.le_refl _, rfl, fun i p e => nomatch e⟩
  case fin =>
    rintro ys news ⟨more, rfl, _, hT⟩
    intro D h tk F N o1
    exact ret _ _ _ F.keep ⟨D, ys, more, rfl, Above.sub (News.above N) (allC (.head _) fun p hp => .tail _ (.tail _ hp)), hT⟩
  case step =>
    rintro i ys news hi ⟨more, rfl, hlen, hT⟩ v I oI C oC D m₂ h tk E' ⟨tv, rfl⟩ hoC hx F N off ne
    clear F1 N1 hR
    have hi1 : i + 1 < n := Nat.add_lt_of_lt_sub hi
    have hi0 : i < n := Nat.lt_of_succ_lt hi1
    have hi7 : i < 8 := Nat.lt_of_lt_of_le hi0 hn.2
    have hl1 := hl i hi1
    have hz1 := hz (i + 1) hi1
    have hz0 := hz i hi0
    have hsz : (1000000 : Nat) ≤ sizeLine := Nat.le_of_ble_eq_true (by decide +kernel)
    have hbig : ys.length + (rn (i + 1)).length ≤ sizeLine := by clear ne off; omega
    have hbig2 : (rn (i + 1)).length ≤ 1000 := Nat.le_trans hz1 (by decide)
    clear hsz hi
    k_steps
    (rename Fr _ _ _ _ => F1); (rename News _ _ _ _ => N1); (rename IsRange _ _ _ _ _ _ _ _ => hR)
    refine ⟨_, _, _, rfl, F1, N1, off, trivial, .rng _ 0 _ _ _ _ (rn (i + 1)).length rfl hR (range_ok _ hbig2).1 (range_ok _ hbig2).2 hbig ?_⟩
    refine Rest2.ind (rn (i + 1)).length (fun j => PrI (_, _) (8 * i + j) (firstP rn i ++ rowP rn i j)) ?fin2 ?step2 (rn (i + 1)).length 0 ys _ (by omega) ⟨more, rfl, hlen, by simpa [rowP] using hT⟩
    case fin2 =>
      rintro ys news ⟨more, rfl, hlen, hT⟩
      exact ⟨more, rfl, by omega, by rw [firstP_succ]; exact hT⟩
    case step2 =>
      clear F1 N1 hR off ne hT hlen hoC hx hbig hbig2
      rintro j ys news hj ⟨more, rfl, hlen, hT⟩ v' J oJ I oI C oC D m₂ h tk E' ⟨tv', rfl⟩ hoC hx hy F N off offJ ne
      obtain ⟨ne1, ne2, ne3, ne4, ne5, ne6⟩ := ne
      refine wpAny_tests_one ?_
      k_steps
      · (rename Fr _ _ _ _ => F2); (rename News _ _ _ _ => N2); (rename (_ < _ ∧ _ < _ ∧ _) => l1); (rename List.getD _ _ _ < List.getD _ _ _ => hc)
        simp only [Int.zero_add] at N2
        obtain ⟨l1, l2, l3, l4, _, _⟩ := l1
        refine End2.of ((_, _) :: (_, tup2 (i, j) tv tv') :: more) F2 N2 (by refine allC (by k_mem) (allC (by k_mem) (allC (by k_mem) (allC (by k_mem) (allC (by k_mem) (allC (by k_mem) ?_))))); intro p hp; repeat (first | exact hp | apply List.Mem.tail)) ⟨off.1, ⟨Nat.ne_of_gt l2, Nat.ne_of_gt l3, Nat.ne_of_gt l4⟩, off.2⟩ (allC (offJ _ (.head _)) (allC (Nat.ne_of_gt l1) fun p hp => offJ _ (.tail _ hp))) trivial ⟨_, rfl, by rw [List.length_append, List.length_singleton]; omega, ?_⟩
        · rw [rowP_yes hc, ← List.append_assoc]
          exact hT.snoc (i, j) _ tv tv'
      · (rename Fr _ _ _ _ => F2); (rename News _ _ _ _ => N2); (rename ¬ (List.getD _ _ _ < List.getD _ _ _) => hc)
        exact End2.of ((_, _) :: more) F2 N2 (fun p hp => hp) off offJ trivial ⟨more, rfl, by omega, by rw [rowP_no hc]; exact hT⟩
end
section -- X0
set_option maxHeartbeats 4000000
open PyProof.Rows.LCg
/-- the rows of both lists, as they stand in a ledger -/
structure RowsIn (n : Nat) (ga ta : Nat → Addr) (gv tv : Nat → List Value) (gn : Nat → List Str) (tn : Nat → List Int) (more : List (Addr × Obj)) : Prop where
  g : ∀ i, i < n → ∃ o ep, (ga i, o) ∈ more ∧ o.cls = .type "list" ∧ o.data = .seq (gv i).toArray ep
  t : ∀ i, i < n → ∃ o ep, (ta i, o) ∈ more ∧ o.cls = .type "list" ∧ o.data = .seq (tv i).toArray ep
  gs : ∀ i, i < n → StrsAre (gv i) (gn i)
  ti : ∀ i, i < n → IntsAre (tv i) (tn i)
/-- the rows' places are apart -/
structure Apart (n : Nat) (ga ta : Nat → Addr) : Prop where
  gg : ∀ i j, i < n → j < n → ga i = ga j → i = j
  tt : ∀ i j, i < n → j < n → ta i = ta j → i = j
  gt : ∀ i j, i < n → j < n → ga i ≠ ta j
noncomputable def upd {α : Type} (f : Nat → List α) (r c : Nat) (v : α) : Nat → List α := fun j => if j = r then (f r).set c v else f j
noncomputable def swapAt (more : List (Addr × Obj)) (a : Addr) (o : Obj) : List (Addr × Obj) := more.map fun p => if p.1 = a then (a, o) else p
theorem swapAt_mem {more : List (Addr × Obj)} {a : Addr} {o o' : Obj} (h : (a, o') ∈ more) : (a, o) ∈ swapAt more a o := List.mem_map.mpr ⟨(a, o'), h, if_pos rfl⟩
theorem swapAt_ne {more : List (Addr × Obj)} {a b : Addr} {o o' : Obj} (h : (b, o') ∈ more) (hb : b ≠ a) : (b, o') ∈ swapAt more a o := List.mem_map.mpr ⟨(b, o'), h, if_neg hb⟩
theorem StrsAre.set {vs : List Value} {xs : List Str} (h : StrsAre vs xs) : ∀ (c : Nat) (x : Str) (t : Tok), StrsAre (vs.set c (.str x t)) (xs.set c x) := by
  induction h with
  | nil => intro c x t; exact .nil
  | cons y u h ih =>
    intro c x t
    cases c with
    | zero => exact .cons _ _ h
    | succ c => exact .cons _ _ (ih c x t)
theorem IntsAre.set {vs : List Value} {xs : List Int} (h : IntsAre vs xs) : ∀ (c : Nat) (x : Int) (t : Tok), IntsAre (vs.set c (.int x t)) (xs.set c x) := by
  induction h with
  | nil => intro c x t; exact .nil
  | cons y u h ih =>
    intro c x t
    cases c with
    | zero => exact .cons _ _ h
    | succ c => exact .cons _ _ (ih c x t)
section
variable {n : Nat} {ga ta : Nat → Addr} {gv tv : Nat → List Value} {gn : Nat → List Str} {tn : Nat → List Int} {more : List (Addr × Obj)}
theorem RowsIn.setG (R : RowsIn n ga ta gv tv gn tn more) (Z : Apart n ga ta) {r : Nat} (hr : r < n) (c : Nat) (x : Str) (t : Tok) {o : Obj} {ep : Nat} (ho : o.cls = .type "list") (hd : o.data = .seq ((gv r).set c (.str x t)).toArray ep) :
    RowsIn n ga ta (upd gv r c (.str x t)) tv (upd gn r c x) tn (swapAt more (ga r) o) where
  g := fun i hi => by
    by_cases e : i = r
    · subst e
      obtain ⟨o', ep', hm, _, _⟩ := R.g i hi
      exact ⟨o, ep, swapAt_mem hm, ho, by unfold upd; rw [if_pos rfl]; exact hd⟩
    · obtain ⟨o', ep', hm, h1, h2⟩ := R.g i hi
      exact ⟨o', ep', swapAt_ne hm (fun q => e (Z.gg _ _ hi hr q)), h1, by unfold upd; rw [if_neg e]; exact h2⟩
  t := fun i hi => by
    obtain ⟨o', ep', hm, h1, h2⟩ := R.t i hi
    exact ⟨o', ep', swapAt_ne hm (fun q => Z.gt _ _ hr hi q.symm), h1, h2⟩
  gs := fun i hi => by
    unfold upd
    by_cases e : i = r
    · subst e; rw [if_pos rfl, if_pos rfl]; exact StrsAre.set (R.gs i hi) c x t
    · rw [if_neg e, if_neg e]; exact R.gs i hi
  ti := R.ti
theorem RowsIn.setT (R : RowsIn n ga ta gv tv gn tn more) (Z : Apart n ga ta) {r : Nat} (hr : r < n) (c : Nat) (x : Int) (t : Tok) {o : Obj} {ep : Nat} (ho : o.cls = .type "list") (hd : o.data = .seq ((tv r).set c (.int x t)).toArray ep) :
    RowsIn n ga ta gv (upd tv r c (.int x t)) gn (upd tn r c x) (swapAt more (ta r) o) where
  g := fun i hi => by
    obtain ⟨o', ep', hm, h1, h2⟩ := R.g i hi
    exact ⟨o', ep', swapAt_ne hm (fun q => Z.gt _ _ hi hr q), h1, h2⟩
  t := fun i hi => by
    by_cases e : i = r
    · subst e
      obtain ⟨o', ep', hm, _, _⟩ := R.t i hi
      exact ⟨o, ep, swapAt_mem hm, ho, by unfold upd; rw [if_pos rfl]; exact hd⟩
    · obtain ⟨o', ep', hm, h1, h2⟩ := R.t i hi
      exact ⟨o', ep', swapAt_ne hm (fun q => e (Z.tt _ _ hi hr q)), h1, by unfold upd; rw [if_neg e]; exact h2⟩
  gs := R.gs
  ti := fun i hi => by
    unfold upd
    by_cases e : i = r
    · subst e; rw [if_pos rfl, if_pos rfl]; exact IntsAre.set (R.ti i hi) c x t
    · rw [if_neg e, if_neg e]; exact R.ti i hi
end
section
variable {prog : Program} {w : World} {A : Around} {E : Value → Shared → Prop} {s : Shared} {Q : Value → Shared → Prop} {h₀ : Heap} {L : Addr} {m : Str → Option Value} {pre more : List (Addr × Obj)} {n : Nat} {ga ta : Nat → Addr} {gv tv : Nat → List Value} {gn : Nat → List Str} {tn : Nat → List Int} {value slice : Expr} {k : Int} {u : Tok} {i : Nat}
theorem news_more (N : News h₀ L s.heap (pre ++ more)) : News h₀ L s.heap more := fun p hp => N p (List.mem_append_right _ hp)
theorem r_list (N : News h₀ L s.heap more) {a : Addr} {vs : List Value} (h : ∃ o ep, (a, o) ∈ more ∧ o.cls = .type "list" ∧ o.data = .seq vs.toArray ep) : s.heap.IsList a vs.toArray := by
  obtain ⟨o, ep, hm, h1, h2⟩ := h
  exact ⟨o, (N _ hm).1, h1, ep, h2⟩
/-- a row, out of the list of rows -/
theorem r_top {l : Addr} {ra : Nat → Addr} (F : Fr h₀ L s.heap m) (hl : h₀.IsList l ((List.range n).map fun i => Value.ref (ra i)).toArray) (h0 : 0 ≤ k) (h1 : k < n) (hz : n ≤ 1000) (h : Q (.ref (ra k.toNat)) s)
    (hs : subscripted slice false (.ref l) (.int k u) = operate [.ref l, .int k u] (getItem (.ref l) (.int k u))) (hg : ∀ r, letTemporaryGo value (.ref l) r = pure ()) :
    wpAny (model prog w) A (subscriptTail value slice (.ref l) (.int k u)) Q E s := by
  refine item_list (hl.at fun o e => F.keep _ o e) h0 (by omega) ?_ h hs hg
  have : k.toNat < n := by omega
  simp [this]
theorem StrsAre.at {vs : List Value} {xs : List Str} (h : StrsAre vs xs) : ∀ {j : Nat} {x : Str}, xs[j]? = some x → ∃ t, vs[j]? = some (.str x t) := by
  induction h with
  | nil => intro j x e; cases e
  | cons y u h ih =>
    intro j x e
    cases j with
    | zero => exact ⟨u, by rw [Option.some.inj e.symm]; rfl⟩
    | succ j => exact ih e
/-- a cell of a row of texts -/
theorem r_cell (N : News h₀ L s.heap more) (R : RowsIn n ga ta gv tv gn tn more) (hi : i < n) (h0 : 0 ≤ k) (hz : k < 1000) {x : Str} (hx : (gn i)[k.toNat]? = some x) (h : ∀ tv, Q (.str x tv) s)
    (hs : subscripted slice false (.ref (ga i)) (.int k u) = operate [.ref (ga i), .int k u] (getItem (.ref (ga i)) (.int k u))) (hg : ∀ r, letTemporaryGo value (.ref (ga i)) r = pure ()) :
    wpAny (model prog w) A (subscriptTail value slice (.ref (ga i)) (.int k u)) Q E s := by
  obtain ⟨tv, htv⟩ := StrsAre.at (R.gs i hi) hx
  exact item_list (r_list N (R.g i hi)) h0 (by omega) (by simpa using htv) (h tv) hs hg
theorem r_set {a : Addr} {vs : List Value} {v : Value} {Q : Unit → Shared → Prop} (F : Fr h₀ L s.heap m) (N : News h₀ L s.heap (pre ++ more)) (hpre : ∀ p ∈ pre, p.1 ≠ a) (ho : ∃ o ep, (a, o) ∈ more ∧ o.cls = .type "list" ∧ o.data = .seq vs.toArray ep) (h0 : 0 ≤ k) (h1 : k < (vs.length : Int)) (hz : k < 1000)
    (h : ∀ h' o' ep', Fr h₀ L h' m → News h₀ L h' (pre ++ swapAt more a o') → o'.cls = .type "list" → o'.data = .seq (vs.set k.toNat v).toArray ep' → Q () { s with heap := h' }) :
    wpAny (model prog w) A (setItem (.ref a) (.int k u) v) Q E s := by
  have hl := r_list (news_more N) ho
  obtain ⟨o, ep, hm, _, _⟩ := ho
  obtain ⟨n1, n2, n3⟩ := N (a, o) (List.mem_append_right _ hm)
  refine wpAny_setItem_list hl h0 (by omega) (by simpa using h1) fun h' hl' hs' => ?_
  obtain ⟨o', ho', hc', ep', hd'⟩ := hl'
  refine h h' o' ep' (F.change hs' n2 n3) (fun p hp => ?_) hc' (by rw [hd']; simp)
  rcases List.mem_append.mp hp with hp | hp
  · exact ⟨hs'.extBut _ _ (hpre p hp) (N p (List.mem_append_left _ hp)).1, (N p (List.mem_append_left _ hp)).2⟩
  · obtain ⟨q, hq, e⟩ := List.mem_map.mp hp
    by_cases ha : q.1 = a
    · rw [if_pos ha] at e
      subst e
      exact ⟨ho', n2, n3⟩
    · rw [if_neg ha] at e
      subst e
      exact ⟨hs'.extBut _ _ ha (N q (List.mem_append_right _ hq)).1, (N q (List.mem_append_right _ hq)).2⟩
end
end
section -- A9
set_option maxHeartbeats 400000
noncomputable abbrev tupS (p : Str × Str) (t t' : Tok) : Obj := { cls := .type "tuple", data := .seq #[.str p.1 t, .str p.2 t'] }
noncomputable abbrev iniE (hs : Int) (tk : Tok) (n : Int) (t : Tok) : List DictEntry := [⟨hs, .str (Str.ofString "_initial_size") tk, .int n t⟩]
/-- an _Accumulator in a ledger: its texts, its first size -/
structure AccIn (more : List (Addr × Obj)) (x dx : Addr) (vs : List Value) (n : Int) (parts : List (Str × Str)) : Prop where
  ob : ∃ ep, (x, acc dx vs ep) ∈ more
  dc : ∃ hs tk t k, (dx, dictOf (iniE hs tk n t) k) ∈ more
  ln : vs.length = parts.length
  tp : ∀ (j : Nat) (p : Str × Str), parts[j]? = some p → ∃ (T : Addr) (t t' : Tok), vs[j]? = some (Value.ref T) ∧ (T, tupS p t t') ∈ more
/-- what a call does that writes to T only -/
structure Went (gb h h' : Heap) (T : List Addr) (more more' : List (Addr × Obj)) : Prop where
  kept : ∀ b o, b ∉ T → h.get? b = some o → h'.get? b = some o
  abv : Above gb h' more'
  src : ∀ q ∈ more', h.get? q.1 = none ∨ ∃ o, (q.1, o) ∈ more
  tch : ∀ a ∈ T, ∃ o, (a, o) ∈ more
theorem Went.refl {gb h : Heap} {T : List Addr} {more : List (Addr × Obj)} (a : Above gb h more) (t : ∀ a ∈ T, ∃ o, (a, o) ∈ more) : Went gb h h T more more := ⟨fun _ _ _ e => e, a, fun q hq => .inr ⟨_, hq⟩, t⟩
theorem Went.trans {gb h h' h'' : Heap} {T : List Addr} {m1 m2 m3 : List (Addr × Obj)} (x : Went gb h h' T m1 m2) (y : Went gb h' h'' T m2 m3) : Went gb h h'' T m1 m3 where
  kept := fun b o hb e => y.kept b o hb (x.kept b o hb e)
  abv := y.abv
  src := fun q hq => by
    rcases y.src q hq with e | ⟨o, e⟩
    · by_cases hT : q.1 ∈ T
      · exact .inr (x.tch _ hT)
      · cases z : h.get? q.1 with
        | none => exact .inl rfl
        | some o => rw [x.kept _ _ hT z] at e; cases e
    · exact x.src (q.1, o) e
  tch := x.tch
section
variable {gb h h' : Heap} {L : Addr} {m : Str → Option Value} {T : List Addr} {pre more more' : List (Addr × Obj)}
theorem Went.fr (W : Went gb h h' T more more') (F : Fr gb L h m) (N : News gb L h more) : Fr gb L h' m :=
  ⟨F.ns.at fun o e => W.kept _ _ (fun hT => by obtain ⟨o, hm⟩ := W.tch _ hT; exact (N _ hm).2.1 rfl) e,
    fun b o e => W.kept _ _ (fun hT => by obtain ⟨o', hm⟩ := W.tch _ hT; have := (N _ hm).2.2; rw [show (b, o').1 = b from rfl, e] at this; cases this) (F.keep b o e), F.above⟩
theorem Went.news (W : Went gb h h' T more more') (F : Fr gb L h m) (N : News gb L h (pre ++ more)) (hp : ∀ p ∈ pre, ∀ q ∈ more, p.1 ≠ q.1) : News gb L h' (pre ++ more') := fun p hp' => by
  rcases List.mem_append.mp hp' with hm | hm
  · obtain ⟨a, b, c⟩ := N p (List.mem_append_left _ hm)
    exact ⟨W.kept _ _ (fun hT => by obtain ⟨o, hq⟩ := W.tch _ hT; exact hp p hm _ hq rfl) a, b, c⟩
  · obtain ⟨a, b⟩ := W.abv p hm
    refine ⟨a, fun e => ?_, b⟩
    rcases W.src p hm with z | ⟨o, z⟩
    · obtain ⟨o, es, ep, e1, _⟩ := F.ns
      rw [e, e1] at z; cases z
    · exact (N _ (List.mem_append_right _ z)).2.1 e
theorem Went.grows (W : Went gb h h' T more more') (k : Grows gb h) (a : Above gb h more) : Grows gb h' := fun b o e => W.kept b o (fun hT => by
  obtain ⟨o', hm⟩ := W.tch _ hT
  have := (a _ hm).2
  rw [show (b, o').1 = b from rfl, e] at this; cases this) (k b o e)
end
/-- one item behind an _Accumulator's others -/
theorem AccIn.push {more : List (Addr × Obj)} {gb h : Heap} {x dx T : Addr} {vs : List Value} {n : Int} {parts : List (Str × Str)} {p : Str × Str} {t t' : Tok} {ep' : Nat} (I : AccIn more x dx vs n parts) (a : Above gb h more) (hT : h.get? T = none) :
    AccIn ((T, tupS p t t') :: swapAt more x (acc dx (vs ++ [.ref T]) ep')) x dx (vs ++ [.ref T]) n (parts ++ [p]) := by
  obtain ⟨⟨ep, ho⟩, ⟨hs, tk, t₀, k, hd⟩, hl, ht⟩ := I
  have ne : ∀ {b : Addr} {o : Obj}, (b, o) ∈ more → o.cls ≠ .ref 221 → b ≠ x := fun hb hc e => by
    subst e
    have e1 := (a _ hb).1
    have e2 := (a _ ho).1
    rw [e1] at e2
    cases e2
    exact hc rfl
  refine ⟨⟨ep', .tail _ (swapAt_mem ho)⟩, ⟨hs, tk, t₀, k, .tail _ (swapAt_ne hd (ne hd (by simp)))⟩, by simp [hl], fun j q hj => ?_⟩
  by_cases hlt : j < parts.length
  · rw [List.getElem?_append_left hlt] at hj
    obtain ⟨T', u, u', h1, h2⟩ := ht j q hj
    exact ⟨T', u, u', by rw [List.getElem?_append_left (by omega)]; exact h1, .tail _ (swapAt_ne h2 (ne h2 (by simp)))⟩
  · rw [List.getElem?_append_right (by omega)] at hj
    have hz : j - parts.length = 0 := by
      cases e : j - parts.length with
      | zero => rfl
      | succ k => rw [e] at hj; cases hj
    rw [hz] at hj
    cases hj
    refine ⟨T, t, t', ?_, .head _⟩
    rw [List.getElem?_append_right (by omega), hl, hz]; rfl
theorem Went.push {gb h h' : Heap} {x dx T : Addr} {vs : List Value} {more : List (Addr × Obj)} {o : Obj} {ep ep' : Nat} {vs' : List Value} {Ts : List Addr} (a : Above gb h more) (ho : (x, acc dx vs ep) ∈ more) (hx : x ∈ Ts) (tch : ∀ a ∈ Ts, ∃ o, (a, o) ∈ more)
    (hT : h.get? T = none) (hgT : gb.get? T = none) (k : ∀ b o, b ≠ x → h.get? b = some o → h'.get? b = some o) (e1 : h'.get? T = some o) (e2 : h'.get? x = some (acc dx vs' ep')) : Went gb h h' Ts more ((T, o) :: swapAt more x (acc dx vs' ep')) where
  kept := fun b o hb e => k b o (fun q => hb (q ▸ hx)) e
  abv := fun q hq => by
    rcases List.mem_cons.mp hq with rfl | hq
    · exact ⟨e1, hgT⟩
    · obtain ⟨r, hr, e⟩ := List.mem_map.mp hq
      by_cases hx' : r.1 = x
      · rw [if_pos hx'] at e; subst e
        exact ⟨e2, (a _ ho).2⟩
      · rw [if_neg hx'] at e; subst e
        exact ⟨k _ _ hx' (a _ hr).1, (a _ hr).2⟩
  src := fun q hq => by
    rcases List.mem_cons.mp hq with rfl | hq
    · exact .inl hT
    · obtain ⟨r, hr, e⟩ := List.mem_map.mp hq
      by_cases hx' : r.1 = x
      · rw [if_pos hx'] at e; subst e
        exact .inr ⟨_, ho⟩
      · rw [if_neg hx'] at e; subst e
        exact .inr ⟨_, hr⟩
  tch := tch
/-- no generator sleeps in mid-air, the outer world is as told -/
noncomputable abbrev Still (os₀ : OsState) (s : Shared) : Prop := AllBare s.gens ∧ s.os = os₀
/-- the contract of a method that writes to T only -/
noncomputable abbrev FnA (os₀ : OsState) (w : World) (mean : ExcName → Option Value) (mg mb : Str → Option Value) (d : Nat) (f : Addr) (args : List Value) (T : List Addr) (Pre : List (Addr × Obj) → Prop) (Post : Value → List (Addr × Obj) → List (Addr × Obj) → Prop) : Prop :=
  ∀ (A : Around) (s : Shared) (Q E : Value → Shared → Prop) (gb : Heap) (more : List (Addr × Obj)), Room A d → Base w mean mg mb gb → Grows gb s.heap → gb.objs.size ≤ s.heap.objs.size → Above gb s.heap more → Still os₀ s → (∀ a ∈ T, ∃ o, (a, o) ∈ more) → Pre more →
    (∀ v s' more', Went gb s.heap s'.heap T more more' → Still os₀ s' → Post v more more' → Q v s') → wpAny (model PySem.Challenge.rw_xo0029_01.row.prog w) A (call (.ref f) args) Q E s
theorem FnA.intro {os₀ : OsState} {w : World} {mean : ExcName → Option Value} {mg mb : Str → Option Value} {d : Nat} {f : Addr} {args : List Value} {T : List Addr} {Pre : List (Addr × Obj) → Prop} {Post : Value → List (Addr × Obj) → List (Addr × Obj) → Prop}
    (h : ∀ dp fr gd un g gs dr tk os (Q E : Value → Shared → Prop) gb more, Room ⟨none, dp, fr, gd, un⟩ d → Base w mean mg mb gb → Grows gb g → gb.objs.size ≤ g.objs.size → Above gb g more → Still os₀ ⟨g, gs, dr, tk, os⟩ → (∀ a ∈ T, ∃ o, (a, o) ∈ more) → Pre more → (∀ v s' more', Went gb g s'.heap T more more' → Still os₀ s' → Post v more more' → Q v s') → wpAny (model PySem.Challenge.rw_xo0029_01.row.prog w) ⟨none, dp, fr, gd, un⟩ (call (.ref f) args) Q E ⟨g, gs, dr, tk, os⟩) : FnA os₀ w mean mg mb d f args T Pre Post := by
  rintro ⟨hh, dp, fr, gd, un⟩ ⟨g, gs, dr, tk, os⟩ Q E gb more r B hk hz ha hs tch p ret
  obtain rfl : hh = none := r.hh
  exact h dp fr gd un g gs dr tk os Q E gb more r B hk hz ha hs tch p ret
end
section -- A10
set_option maxHeartbeats 400000
theorem dupN {h₀ h : Heap} {L : Addr} {news : List (Addr × Obj)} {p : Addr × Obj} (N : News h₀ L h news) (hm : p ∈ news) : News h₀ L h (p :: news) := fun q hq => by
  rcases List.mem_cons.mp hq with rfl | hq
  · exact N _ hm
  · exact N q hq
/-- the heap at a method's entry without the ledger -/
noncomputable abbrev gAt (g : Heap) (more : List (Addr × Obj)) : Heap := hideAll g (more.map (·.1))
section
variable {gb g : Heap} {more : List (Addr × Obj)}
theorem gAt_base (hk : Grows gb g) (ha : Above gb g more) : Grows gb (gAt g more) := fun b o e => hideAll_get _ (hk b o e) fun hm => by
  obtain ⟨q, hq, rfl⟩ := List.mem_map.mp hm
  have := (ha q hq).2
  rw [e] at this; cases this
theorem gAt_grows : Grows (gAt g more) g := fun _ _ e => of_hideAll _ e
theorem gAt_above (ha : Above gb g more) : Above (gAt g more) g more := fun p hp => ⟨(ha p hp).1, hideAll_none _ (List.mem_map_of_mem hp)⟩
theorem gAt_fresh {a : Addr} (e : (gAt g more).get? a = none) (hn : ∀ p ∈ more, p.1 ≠ a) : g.get? a = none := by
  cases z : g.get? a with
  | none => rfl
  | some o =>
    have := hideAll_get (more.map (·.1)) z fun hm => by
      obtain ⟨q, hq, e⟩ := List.mem_map.mp hm
      exact hn q hq e
    rw [show hideAll g (more.map (·.1)) = gAt g more from rfl, e] at this; cases this
end
end
section -- A11
set_option maxHeartbeats 300000
section
variable {prog : Program} {w' w : World} {A : Around} {E : Value → Shared → Prop} {s : Shared} {x dx L : Addr} {h₀ : Heap} {m : Str → Option Value} {news : List (Addr × Obj)} {vs : List Value} {ep : Nat} {hs : Int} {tk t : Tok} {n : Int} {k : Nat} {name : Str}
theorem words_A11_1 : True := by
  k_with_none
  w_top off
  k_with "mn_enter" => ((
  (have Xᵥ := Base.K (by assumption)); (have Tᵥ := Base.T (by assumption)); revert Tᵥ; revert Xᵥ; k_fill; intro _ _
  k_dflt (refine' enter0 ?k1ᵥ ?k2ᵥ ?k3ᵥ ?k4ᵥ ?k5ᵥ ?k6ᵥ ?k7ᵥ ?k8ᵥ ?k9ᵥ ?k10ᵥ ?_; (case k1ᵥ => exact Base.keeps (by assumption) (by assumption)); (case k2ᵥ => exact Room.depth (by assumption)); (case k3ᵥ => k_is); (case k4ᵥ => k_is); (case k5ᵥ => first | exact BindsTo.of_eq rfl | exact binds_K (by k_in) rfl (by k_is) rfl rfl rfl | fail "m_enter: no rule for these arguments"); (case k6ᵥ => exact locs rfl); (case k7ᵥ => decide); (case k8ᵥ => exact rfl); (case k9ᵥ => exact rfl); (case k10ᵥ => exact rfl); k_whole; intro _ _ _ _; (try dsimp only); (try k_fold))))
  trivial
theorem a_methodN {pl : Sem Bool} {Q : Value × List Value → Shared → Prop} {i : Value} {T : String} (F : Fr h₀ L s.heap m) (X : (hd.heap_1 w'.params).In h₀) (N : News h₀ L s.heap news) (hx : (x, acc dx vs ep) ∈ news) (hdx : (dx, dictOf (iniE hs tk n t) k) ∈ news)
    (hf : findIn (hd.heap_1 w'.params) (.ref 221) name = some (some i)) (ht : typeIn (hd.heap_1 w'.params) i = some (.type T)) (hT : T = "method_descriptor" ∨ T = "function") (hs : getL name (iniE hs tk n t) = some none) (h : Q (i, [.ref x]) s) :
    wpAny (model prog w) A (getMethod (.ref x) name pl) Q E s := a_method (X.keeps F.keep) (N _ hx).1 (N _ hdx).1 hf ht hT hs h
theorem a_getN {expr : Bool} {Q : Value → Shared → Prop} (F : Fr h₀ L s.heap m) (X : (hd.heap_1 w'.params).In h₀) (N : News h₀ L s.heap news) (hx : (x, acc dx vs ep) ∈ news) (hdx : (dx, dictOf (iniE hs tk n t) k) ∈ news)
    (h : Q (.int n t) { s with toks := s.toks + 1 }) : wpAny (model prog w) A (getAttr (.ref x) (Str.ofString "_initial_size") expr) Q E s :=
  a_getattr (X.keeps F.keep) (N _ hx).1 (N _ hdx).1 (attr := none) (by kernel_rfl) (by kernel_rfl) (by rfl) (by rfl) h
end
theorem words_A11_2 : True := by
  k_with "getMethod ref" => ((k_here; k_dflt (refine' a_methodN ?k1ᵥ ?k2ᵥ ?k3ᵥ ?k4ᵥ ?k5ᵥ ?k6ᵥ ?k7ᵥ ?k8ᵥ ?k9ᵥ ?_; (case k1ᵥ => k_asm); (case k2ᵥ => k_in); (case k3ᵥ => k_asm); (case k4ᵥ => k_mem); (case k5ᵥ => k_mem); (case k6ᵥ => k_is); (case k7ᵥ => k_is); (case k8ᵥ => first | exact .inl rfl | exact .inr rfl); (case k9ᵥ => exact rfl))))
  trivial
theorem allLt_ne {D : Addr} {more : List (Addr × Obj)} (h : AllLt D more) : ∀ p ∈ more, p.1 ≠ D := by
  induction more with
  | nil => intro p hp; cases hp
  | cons q r ih =>
    intro p hp
    rcases List.mem_cons.mp hp with e | hp
    · rw [e]; exact Nat.ne_of_lt h.1
    · exact ih h.2 p hp
theorem fn_push (w : World) (mean : ExcName → Option Value) (mg mb : Str → Option Value) (x dx : Addr) (T : List Addr) (hT : x ∈ T) (vs : List Value) (n : Int) (parts : List (Str × Str)) (hz : vs.length ≤ 20) (f p : Str) (tf tp : Tok) :
   FnA os₀ w mean mg mb 5 165 [.ref x, .str f tf, .str p tp] T (fun more => AccIn more x dx vs n parts) (fun v _ more' => v = .none ∧ ∃ vs', AccIn more' x dx vs' n (parts ++ [(f, p)])) := by
  refine FnA.intro fun dp fr gd un g gs dr tk os Q E gb more rm B hk hzz ha hbr tch I ret => ?_
  have B2 := B.keeps (gAt_base hk ha)
  have k2 : Grows (gAt g more) g := gAt_grows
  have a2 := gAt_above ha
  have z2 : (gAt g more).objs.size ≤ g.objs.size := Nat.le_of_eq (hideAll_size _ _)
  have gk := gAt_base hk ha
  clear B hk
  walk_at "mn_enter"
  rename_i Lx hx0 F0 N0
  have N1 := News.lower F0 N0 k2 a2
  have F1 := Fr.lower F0 k2 z2
  rw [List.nil_append] at N1
  have F2 := (show Fr (gAt g more) _ _ (fun y => List.lookup y [(Str.ofString "string", Value.str p tp), (Str.ofString "fws", Value.str f tf), (Str.ofString "self", Value.ref x)]) from F1)
  obtain ⟨ep, hob⟩ := I.ob
  obtain ⟨hs, tk1, t1, k1, hdc⟩ := I.dc
  have N2 := dupN (dupN N1 hdc) (.tail _ hob)
  clear N1 F1 F0 N0
  k_steps
  (rename Fr _ _ _ _ => F3); (rename News _ _ _ _ => N3); (rename (_ < _ ∧ _ ∧ AllLt _ _) => l3)
  rename_i D' h3
  obtain ⟨lx, ldx, lm⟩ := l3
  have fr : g.get? D' = none := gAt_fresh (N3 _ (.head _)).2.2 (allLt_ne lm)
  refine a_append ((Base.K B2).keeps F3.keep) (N3 _ (.tail _ (.head _))).1 (by omega) fun h' ep' e1 sb => ?_
  show wpAny _ _ (pure Flow.next) _ _ _
  refine wpAny_pure ?_
  show Q _ _
  have kg : ∀ b o, b ≠ x → g.get? b = some o → h'.get? b = some o := fun b o hb e => by
    refine sb.extBut b o hb ?_
    by_cases hm : b ∈ more.map (·.1)
    · obtain ⟨q, hq, rfl⟩ := List.mem_map.mp hm
      have h1 := (N3 q (.tail _ (.tail _ (.tail _ hq)))).1
      rw [(ha q hq).1] at e
      rw [h1, Option.some.inj e]
    · exact F3.keep _ _ (hideAll_get _ e hm)
  have gD : gb.get? D' = none := by
    cases z : gb.get? D' with
    | none => rfl
    | some o => rw [k2 _ _ (gk _ _ z)] at fr; cases fr
  refine ret _ _ _ (Went.push ha hob hT tch fr gD kg (sb.extBut _ _ (Ne.symm (Nat.ne_of_lt lx)) (N3 _ (.head _)).1) e1) hbr ⟨rfl, _, AccIn.push (p := (f, p)) (t := tf) (t' := tp) (ep' := ep') I ha fr⟩
end
section -- A14
set_option maxHeartbeats 300000
section
variable {w : World} {mean : ExcName → Option Value} {mg mb : Str → Option Value} {A : Around} {s : Shared} {Q E : Value → Shared → Prop}
theorem enterS {f cc : Addr} {oc : Value} {od : Option Addr} {osl : Array (Option Value)} {name qual : Str} {params : Arguments} {body : List Stmt} {scope : Scope} {dV kV doc pm cdv ct : Value} {an : Option Addr} {vs : List Value} {binds : List (Str × Value)}
    (B : Base w mean mg mb s.heap) (hroom : A.depth < recursionLimit)
    (ho : (hd.heap_1 w.params).lookup f = some ⟨oc, od, .func (ksFn name qual params body scope dV kV doc pm an cdv ct cc), osl⟩) (hcd : codeIn (hd.heap_1 w.params) cdv qual = true)
    (hbind : BindsTo s (ksFn name qual params body scope dV kV doc pm an cdv ct cc) ⟨vs, []⟩ binds) (hloc : ∀ y ∈ binds, scope.names.lookup y.1 = some .local)
    (hcell : ∀ x ∈ scope.names, x.2 ≠ .cell) (hco : scope.isCoroutine = false) (hgen : scope.isGenerator = false) (hk : scope.kind = .function)
    (h : ∀ L' h₁, Fr s.heap L' h₁ (fun y => binds.reverse.lookup y) → News s.heap L' h₁ [] →
      _root_.PySem.wpAt (model PySem.Challenge.rw_xo0029_01.row.prog w) (A.deeper (ksEnv qual scope L' f cdv cc)) (.func body (ksEnv qual scope L' f cdv cc)) (execs body (ksEnv qual scope L' f cdv cc))
        (fun fl s' => Q (match fl with | .ret v => v | _ => .none) s') (fun _ _ => False) { s with heap := h₁, toks := s.toks + binds.length }) :
    wpAny (model PySem.Challenge.rw_xo0029_01.row.prog w) A (call (.ref f) vs) Q E s := by
  refine wpAny_call (ks_codeAny_call_defAt (fd := ksFn name qual params body scope dV kV doc pm an cdv ct cc) (body := body) (binds := binds) hroom (B.K _ _ ho) rfl B.T.nolimit (codeRec_of B.K hcd) rfl hbind hcell hloc (fun h₁ hns hk₁ => ?_) hco hgen hk)
  exact ks_wpAt_mono (h _ h₁ ⟨hns, hk₁, Nat.le_refl _⟩ News.nil) (fun fl s' x => x) (fun _ _ x => x.elim)
end
section
variable {prog : Program} {w : World} {A : Around} {E : Value → Shared → Prop} {s : Shared} {h₀ g gb : Heap} {L x dx so : Addr} {m mg mb : Str → Option Value} {news more : List (Addr × Obj)} {K : Frag} {p : Program} {loose : List Str} {mean : ExcName → Option Value} {vs : List Value} {ep : Nat} {odx : Obj}
/-- all old things stand, but for those of X -/
theorem words_A14_1 : True := by
  k_with_none
  w_top off
  k_with "ms_enter" => ((
  (have Xᵥ := Base.K (by assumption)); (have Tᵥ := Base.T (by assumption)); revert Tᵥ; revert Xᵥ; k_fill; intro _ _
  k_dflt (refine' enterS ?k1ᵥ ?k2ᵥ ?k3ᵥ ?k4ᵥ ?k5ᵥ ?k6ᵥ ?k7ᵥ ?k8ᵥ ?k9ᵥ ?k10ᵥ ?_; (case k1ᵥ => exact Base.keeps (by assumption) (by assumption)); (case k2ᵥ => exact Room.depth (by assumption)); (case k3ᵥ => k_is); (case k4ᵥ => k_is); (case k5ᵥ => first | exact BindsTo.of_eq rfl | exact binds_K (by k_in) rfl (by k_is) rfl rfl rfl | fail "m_enter: no rule for these arguments"); (case k6ᵥ => exact locs rfl); (case k7ᵥ => decide); (case k8ᵥ => exact rfl); (case k9ᵥ => exact rfl); (case k10ᵥ => exact rfl); k_whole; intro _ _ _ _; (try dsimp only); (try k_fold))))
  trivial
theorem gAt_kept {X : List Addr} {h : Heap} (ha : Above gb g more) (hm : ∀ q ∈ more, q.1 ∉ X → h.get? q.1 = some q.2) (k : ∀ b o, b ∉ X → (gAt g more).get? b = some o → h.get? b = some o) : ∀ b o, b ∉ X → g.get? b = some o → h.get? b = some o := fun b o hb e => by
  by_cases hq : b ∈ more.map (·.1)
  · obtain ⟨q, hq9, rfl⟩ := List.mem_map.mp hq
    have h1 := hm q hq9 hb
    rw [(ha q hq9).1] at e
    rw [h1, Option.some.inj e]
  · exact k _ _ hb (hideAll_get _ e hq)
theorem Went.same {h' : Heap} {T : List Addr} (k : Grows g h') (ha : Above gb g more) (t : ∀ a ∈ T, ∃ o, (a, o) ∈ more) : Went gb g h' T more more := ⟨fun b o _ e => k b o e, fun q hq => ⟨k _ _ (ha q hq).1, (ha q hq).2⟩, fun q hq => .inr ⟨_, hq⟩, t⟩
theorem a_node {f cc cda : Addr} {body : List Stmt} {q : Str} {scope : Scope} {p0 p1 : Pos} {attr : Str} {whole : Sem Value} {fd : FuncData} {ar : Arg} {cvs : Array Value} {file : Str} {tf : Tok} {oc ccl cl : Value} {od cdd cld : Option Addr} {osl ccs csl : Array (Option Value)} {cdD : ClassData} {Q : Value → Shared → Prop}
    (F : Fr h₀ L s.heap m) (X₀ : K.In h₀) (N : News h₀ L s.heap news) (T : Top p loose mean mg mb h₀)
    (hf : K.lookup f = some ⟨oc, od, .func fd, osl⟩) (hp : (fd.params.posonlyargs ++ fd.params.args).head? = some ar) (hv : m ar.arg = some (.ref x)) (hx : (x, acc dx vs ep) ∈ news) (hdx : (dx, odx) ∈ news)
    (hcode : K.lookup cda = some ⟨ccl, cdd, .fields cvs, ccs⟩) (hvs : cvs[2]? = some (.str file tf)) (hfile : ((prog.main.file : Str) == file) = true)
    (hcell : K.lookup cc = some ⟨cl, cld, .cell (some (.ref 221)), csl⟩) (hD : clsIn K 221 = some cdD) (hsub : mroIn K 221 (.ref 221) = some true) (hsuper : nsIn K mainGlobals "super" = some none)
    (hat : (attr == ("__class__" : Str)) = false) (hks : scope.names.lookup ("super" : Str) = some .globalImplicit) (hkc : scope.names.lookup ("__class__" : Str) = some .free) (hka : scope.names.lookup ar.arg = some .local) (hk : scope.kind = .function)
    (htop : (prog.main.scope.names.lookup ("super" : Str)).isSome = false) (hboot : bootBuiltins "super" = some (.type "super"))
    (h : ∀ so h', Fr h₀ L h' m → News h₀ L h' ((so, ks_superObj 221 x 221) :: news) → (∀ p ∈ news, p.1 < so) → Q (.ref so) { s with heap := h' }) :
    _root_.PySem.wpAt (model prog w) A (.func body (ksEnv q scope L f (.ref cda) cc)) (attributeBase (.Call (.Name "super" p0) [] [] p1) attr (ksEnv q scope L f (.ref cda) cc) whole) Q E s :=
  ks_node F X₀ N T hf hp hv (InstAt.acc (N _ hx).1 (N _ hdx).1) hcode hvs hfile hcell hD hsub hsuper hat hks hkc hka hk htop hboot h
theorem sup_methodN {w' : World} {name : Str} {pl : Sem Bool} {Q : Value × List Value → Shared → Prop} {T gt i : String} {Bi : Builtin} {ob : Obj} {C D : Addr} (F : Fr h₀ L s.heap m) (X : (hd.heap_1 w'.params).In h₀) (N : News h₀ L s.heap news) (hso : (so, ks_superObj D x C) ∈ news) (hx : (x, acc dx vs ep) ∈ news)
    (ho : nsIn (hd.heap_1 w'.params) cStatics "thirdparty.any" = some none) (hm : ks_superIn (hd.heap_1 w'.params) C D name = some (some (.builtin i))) (hn : (name == ("__class__" : Str)) = false)
    (SL : Slot T "__get__" gt) (TY : typeOf (.builtin i) = pure (.type T)) (EN : entryFor table gt = some Bi) (AR : ∀ a b c, argsOk gt ⟨[a, b, c], []⟩)
    (run : ∀ {s' : Shared} {A' : Around} {E' : Value → Shared → Prop} {P : Fin → Shared → Prop}, Looks (model prog w) s'.heap (isInstance (.ref x) (.type "list")) true → P (.done (.ret (.ref s'.heap.objs.size))) { s' with heap := s'.heap.push ob } → wpAny (model prog w) A' (Bi ⟨[.builtin i, .ref x, .ref C], []⟩) P E' s')
    (hno : ob.isFreed = false) (hcls : (clsIn (hd.heap_1 w'.params) C).isSome = true)
    (h : ∀ q h', Fr h₀ L h' m → News h₀ L h' ((q, ob) :: news) → (∀ p ∈ news, p.1 < q) → Q (.ref q, []) { s with heap := h', toks := s.toks + 1 }) : wpAny (model prog w) A (getMethod (.ref so) name pl) Q E s := by
  have X' := X.keeps F.keep
  have hi : Looks (model prog w) s.heap (isInstance (.ref x) (.type "list")) true := ac_inst X' (N _ hx).1
  obtain ⟨hh, g, d, t, os⟩ := s
  obtain ⟨cd, hc⟩ := Option.isSome_iff_exists.mp hcls
  unfold ks_superIn at hm
  rw [hc] at hm
  have hxC : x ≠ C := by
    rintro rfl
    unfold clsIn at hc
    split at hc
    · rename_i c d cd' sl ho
      have e := X' _ _ ho
      rw [(N _ hx).1] at e
      cases e
    · cases hc
  refine sup_method (ob := ob) (l₀ := cd.mro) (N _ hso).1 (looks_opaque X' ho) ?_ rfl X' hm hxC hn SL TY EN AR (fun p => run hi p) ?_
  · exact fun A Q E s k q => wpAny_bind ((looks_clsIn X' hc) A _ E s k (wpAny_pure q))
  · obtain ⟨F', N', l'⟩ := ks_newsPush (s := ⟨hh, g, d, t, os⟩) (o := ob) F N rfl (Heap.get?_push_at rfl hno) (fun b o e => Heap.get?_push_of_some _ e)
    exact h _ _ F' N' l'
end
theorem keeps_bnd {M : Model} {T i : String} {b x : Addr} (hT : T = "builtin_function_or_method" ∨ T = "method-wrapper") (h : Heap) (X : h.get? b = some (bnd T i x)) : ∃ k, (k = Keeper.frame ∨ k = Keeper.machine ∨ k = Keeper.boundFrame) ∧ Looks M h (keeperOf (.ref b)) k :=
  ⟨.machine, .inr (.inl rfl), (Looks.ld (part := none) X).andThen (by rcases hT with rfl | rfl <;> exact .now)⟩
theorem callWith_bnd {M : Model} {A : Around} {E : Value → Shared → Prop} {s : Shared} {h₀ : Heap} {L : Addr} {news : List (Addr × Obj)} {T i : String} {b x : Addr} {pos : Pos} {first : List Value} {env : Env} {Q : Value → Shared → Prop} (N : News h₀ L s.heap news) (hb : (b, bnd T i x) ∈ news) (hT : T = "builtin_function_or_method" ∨ T = "method-wrapper") (h : wpAny M A (call (.ref b) (first ++ [])) Q E s) : wpAny M A (callWith pos (.ref b) first (backTo pos (starEach [] env)) []) Q E s :=
  callWith_of rfl (keeps_bnd hT) (evalArgs_nil3 ⟨(N _ hb).1, h⟩)
theorem words_A14_2 : True := by
  k_with "callWith ref" => ((k_here; k_dflt (refine' callWith_bnd ?k1ᵥ ?k2ᵥ ?k3ᵥ ?_; (case k1ᵥ => k_asm); (case k2ᵥ => k_mem); (case k3ᵥ => first | exact .inl rfl | exact .inr rfl))))
  k_with "wpAt" => ((ks_step "attributeBase Call"; k_here; k_dflt (refine' a_node ?k1ᵥ ?k2ᵥ ?k3ᵥ ?k4ᵥ ?k5ᵥ ?k6ᵥ ?k7ᵥ ?k8ᵥ ?k9ᵥ ?k10ᵥ ?k11ᵥ ?k12ᵥ ?k13ᵥ ?k14ᵥ ?k15ᵥ ?k16ᵥ ?k17ᵥ ?k18ᵥ ?k19ᵥ ?k20ᵥ ?k21ᵥ ?k22ᵥ ?k23ᵥ ?_; (case k1ᵥ => k_asm); (case k2ᵥ => k_in); (case k3ᵥ => k_asm); (case k4ᵥ => exact Base.T (by assumption)); (case k5ᵥ => k_is); (case k6ᵥ => rfl); (case k7ᵥ => rfl); (case k8ᵥ => k_mem); (case k9ᵥ => k_mem); (case k10ᵥ => k_is); (case k11ᵥ => rfl); (case k12ᵥ => first | rfl | decide +kernel); (case k13ᵥ => k_is); (case k14ᵥ => k_is); (case k15ᵥ => k_is); (case k16ᵥ => k_is); (case k17ᵥ => decide); (case k18ᵥ => rfl); (case k19ᵥ => rfl); (case k20ᵥ => rfl); (case k21ᵥ => rfl); (case k22ᵥ => decide +kernel); (case k23ᵥ => first | boot_by_name | rfl | kernel_rfl); intro _ _ _ _ l1ᵥ; (try k_lt l1ᵥ)))); (try (revert l1ᵥ; intro _))
  k_with "getMethod ref" => ((k_here; k_dflt (refine' sup_methodN ?k1ᵥ ?k2ᵥ ?k3ᵥ ?k4ᵥ ?k5ᵥ ?k6ᵥ ?k7ᵥ ?k8ᵥ ?k9ᵥ ?k10ᵥ ?k11ᵥ ?k12ᵥ ?k13ᵥ ?k14ᵥ ?k15ᵥ ?_; (case k1ᵥ => k_asm); (case k2ᵥ => k_in); (case k3ᵥ => k_asm); (case k4ᵥ => k_mem); (case k5ᵥ => k_mem); (case k6ᵥ => k_is); (case k7ᵥ => ks_is); (case k8ᵥ => decide); (case k9ᵥ => exact slot_wd_get); (case k10ᵥ => exact type_llen); (case k11ᵥ => exact entry_wd_get); (case k12ᵥ => exact args_wd_get); (case k13ᵥ => exact fun a b => wd_get a b (.inl ⟨rfl, rfl⟩)); (case k14ᵥ => exact rfl); (case k15ᵥ => kernel_rfl); intro _ _ _ _ l1ᵥ; (try k_lt l1ᵥ)))); (try (revert l1ᵥ; intro _))
  k_with "call ref" => ((refine unstop ?_))
  trivial
theorem fn_pc (w : World) (mean : ExcName → Option Value) (mg mb : Str → Option Value) (x dx : Addr) (T : List Addr) (vs : List Value) (n : Int) (parts : List (Str × Str)) (hz : vs.length ≤ 20) :
   FnA os₀ w mean mg mb 5 218 [.ref x] T (fun more => AccIn more x dx vs n parts) (fun v more more' => (∃ t, v = .int (parts.length : Int) t) ∧ more' = more) := by
  refine FnA.intro fun dp fr gd un g gs dr tk os Q E gb more rm B hk hzz ha hbr tch I ret => ?_
  have B2 := B.keeps (gAt_base hk ha)
  have k2 : Grows (gAt g more) g := gAt_grows
  have a2 := gAt_above ha
  have z2 : (gAt g more).objs.size ≤ g.objs.size := Nat.le_of_eq (hideAll_size _ _)
  have gk := gAt_base hk ha
  clear B hk
  walk_at "ms_enter"
  rename_i Lx hx0 F0 N0
  have N1 := News.lower F0 N0 k2 a2
  have F1 := Fr.lower F0 k2 z2
  rw [List.nil_append] at N1
  have F2 := (show Fr (gAt g more) _ _ (fun y => List.lookup y [(Str.ofString "self", Value.ref x)]) from F1)
  obtain ⟨ep, hob⟩ := I.ob
  obtain ⟨hs, tk1, t1, k1, hdc⟩ := I.dc
  have N2 := dupN (dupN N1 hdc) (.tail _ hob)
  clear N1 F1 F0 N0
  k_steps
  unfold Stop
  (rename Fr _ _ _ _ => F3); (rename News _ _ _ _ => N3)
  refine bnd_len (N3 _ (.head _)).1 (N3 _ (.tail _ (.tail _ (.head _)))).1 fun t k => ?_
  show Q _ _
  have kg := gAt_kept (X := []) ha (fun q hq _ => (N3 q (.tail _ (.tail _ (.tail _ (.tail _ hq))))).1) (fun b o _ e => F3.keep b o e)
  rw [I.ln]
  exact ret _ _ more (Went.same (fun b o e => kg b o (by simp) e) ha tch) hbr ⟨⟨_, rfl⟩, rfl⟩
end
section -- A15
theorem words_A15_0 : True := by
  k_with_none
  w_top off
  trivial
set_option maxHeartbeats 400000
section
variable {prog : Program} {w' w : World} {A : Around} {E : Value → Shared → Prop} {s : Shared} {x dx : Addr} {vs : List Value} {ep : Nat} {R : Value → Shared → Prop}
theorem a_seqKey {k : Value} {name : Str} {Q : Value → Shared → Prop} (X : (hd.heap_1 w'.params).In s.heap) (hx : s.heap.get? x = some (acc dx vs ep)) (h : Q k s) : wpAny (model prog w) A (sequenceKey (.ref x) k name) Q E s := by
  have L0 := ac_type (M := model prog w) hx
  have L1 : Looks (model prog w) s.heap (isSubtype (.ref 221) (.type "collections.deque")) false := looks_subIn X (by kernel_rfl)
  unfold sequenceKey
  refine wpAny_bind (L0.here ?_)
  try dsimp only
  refine wpAny_bind ?_
  show wpAny _ _ (seqItemTypes.anyM _) _ _ _
  unfold seqItemTypes
  simp only [List.anyM_cons, List.anyM_nil]
  refine wpAny_bind (L1.here ?_)
  try dsimp only
  refine wpAny_pure ?_
  exact wpAny_pure h
theorem a_callSpecial {name : Str} {id n : String} {args : List Value} {Bi : Builtin} {Q : Option Value → Shared → Prop} (X : (hd.heap_1 w'.params).In s.heap) (hx : s.heap.get? x = some (acc dx vs ep))
    (hf : findIn (hd.heap_1 w'.params) (.ref 221) name = some (some (.builtin id))) (SL : Slot "list" name id) (EN : entryFor table id = some Bi) (hk : builtinKind id = some .slot ∨ builtinKind id = some .method) (hs : splitId id = some ("list", n)) (ha : argsOk id ⟨.ref x :: args, []⟩)
    (run : ∀ {A' : Around} {E' : Value → Shared → Prop} {P : Fin → Shared → Prop}, (∀ v s', R v s' → P (.done (.ret v)) s') → wpAny (model prog w) A' (Bi ⟨.ref x :: args, []⟩) P E' s)
    (h : ∀ v s', R v s' → Q (some v) s') : wpAny (model prog w) A (callSpecial? (.ref x) name args) Q E s := by
  have sp : Looks (model prog w) s.heap (specialOf (.ref x) name) (some (.builtin id)) := ac_spec X hx hf
  simp only [callSpecial?]
  refine wpAny_bind (sp.here ?_)
  simp only [SL.bind]
  refine wpAny_holding (wpAny_bind (wpAny_pure (wpAny_bind ?_)))
  refine wpAny_call (codeAny_call_builtin SL.plain EN (check_list (s := s) (i := id) (owner := "list") (n := n) (self := .ref x) (rest := args) (kw := []) hk hs (ac_inst X hx) ha ?_))
  exact run fun v s' r => wpAny_pure (h v s' r)
theorem a_getitem {k : Int} {t : Tok} {v : Value} {Q : Value → Shared → Prop} (X : (hd.heap_1 w'.params).In s.heap) (hx : s.heap.get? x = some (acc dx vs ep)) (h0 : 0 ≤ k) (hfit : k < 2 ^ 63) (hv : vs[k.toNat]? = some v) (h : Q v s) :
    wpAny (model prog w) A (getItem (.ref x) (.int k t)) Q E s := by
  unfold getItem
  try with_reducible refine wpAny_holding ?_
  first | refine wpAny_bind (wpAny_pure ?_) | skip
  refine wpAny_bind (a_seqKey X hx ?_)
  refine wpAny_bind (a_callSpecial (R := fun u s' => u = v ∧ s' = s) X hx (by kernel_rfl) (n := "__getitem__") slot_list_getitem entry_list_getitem (.inr (by decide +kernel)) (by decide +kernel) (args_list_getitem _ _) (fun {A' E' P} p => ?_) ?_)
  · show wpAny _ _ (Builtin.List.listSubscript? (.int k t) >>= _) _ _ s
    refine wpAny_bind (wpAny_listSubscript_int (fitsIndex_of h0 hfit) ?_)
    clear hfit
    obtain ⟨j, rfl⟩ := Int.eq_ofNat_of_zero_le h0
    have hx' : vs.toArray[j]? = some v := by simpa using hv
    show wpAny _ _ ((seqItemAt x j >>= fun r => pure (r.map (j, ·))) >>= _) _ _ s
    refine wpAny_bind (wpAny_bind (wpAny_seqItemAt hx rfl (wpAny_pure ?_)))
    rw [hx']
    first
      | exact wpAny_bind (wpAny_pure (wpAny_pure (p _ _ ⟨rfl, rfl⟩)))
      | exact wpAny_pure (p _ _ ⟨rfl, rfl⟩)
  · rintro u s' ⟨rfl, rfl⟩
    exact wpAny_pure h
theorem a_parts {sl : Addr} {vl vu : Value} {lo hi : Option Int} {Q : Value × Value × Value → Shared → Prop} (hs : s.heap.IsSliceOf sl vl vu .none) (pl : IsPart vl lo) (pu : IsPart vu hi) (h : Q (rawPart lo, rawPart hi, .none) s) :
    wpAny (model prog w) A (Builtin.List.listSliceParts (.ref sl)) Q E s := by
  obtain ⟨os, hos, hcs, hds⟩ := id hs
  rw [listSliceParts_eq]
  refine wpAny_bind (wpAny_field hos hds (x := .none) rfl (wpAny_bind (wpAny_listPart .none ?_)))
  rw [if_neg (by exact Bool.false_ne_true)]
  refine wpAny_bind (wpAny_field hos hds (x := vl) rfl (wpAny_bind (wpAny_listPart pl ?_)))
  exact wpAny_bind (wpAny_field hos hds (x := vu) rfl (wpAny_bind (wpAny_listPart pu (wpAny_pure h))))
theorem a_noSub {sl : Addr} {l u st : Value} {Q : Option Int → Shared → Prop} (hs : s.heap.IsSliceOf sl l u st) (h : Q none s) : wpAny (model prog w) A (Builtin.List.listSubscript? (.ref sl)) Q E s := by
  obtain ⟨os, hos, hcs, hds⟩ := id hs
  have hTs : s.TypeIs (.ref sl) "slice" := ⟨os, hos, hcs⟩
  unfold Builtin.List.listSubscript?
  refine wpAny_bind (wpAny_specialOf hTs slice_no_index ?_)
  simp only [Option.isNone_none, if_true]
  exact wpAny_pure h
theorem a_getslice {sl : Addr} {vl vu : Value} {lo hi : Option Int} {Q : Value → Shared → Prop} (X : (hd.heap_1 w'.params).In s.heap) (hx : s.heap.get? x = some (acc dx vs ep)) (hs : s.heap.IsSliceOf sl vl vu .none) (pl : IsPart vl lo) (pu : IsPart vu hi) (hz : vs.length ≤ 500)
    (h : Q (.ref s.heap.objs.size) { s with heap := s.heap.push { cls := .type "list", data := .seq (slicePick vs.toArray lo hi none) } }) : wpAny (model prog w) A (getItem (.ref x) (.ref sl)) Q E s := by
  have hsz : (1000000 : Nat) ≤ sizeLine := Nat.le_of_ble_eq_true (by decide +kernel)
  unfold getItem
  try with_reducible refine wpAny_holding ?_
  first | refine wpAny_bind (wpAny_pure ?_) | skip
  refine wpAny_bind (a_seqKey X hx ?_)
  refine wpAny_bind (a_callSpecial (R := fun u s' => u = .ref s.heap.objs.size ∧ s' = { s with heap := s.heap.push { cls := .type "list", data := .seq (slicePick vs.toArray lo hi none) } }) X hx (by kernel_rfl) (n := "__getitem__") slot_list_getitem entry_list_getitem (.inr (by decide +kernel)) (by decide +kernel) (args_list_getitem _ _) (fun {A' E' P} p => ?_) ?_)
  · show wpAny _ _ (Builtin.List.listSubscript? (.ref sl) >>= _) _ _ s
    refine wpAny_bind (a_noSub hs ?_)
    show wpAny _ _ (typeOf (.ref sl) >>= _) _ _ s
    obtain ⟨os, hos, hcs, hds⟩ := id hs
    have hTs : s.TypeIs (.ref sl) "slice" := ⟨os, hos, hcs⟩
    refine wpAny_bind (wpAny_typeOf hTs ?_)
    rw [if_neg (by decide)]
    refine wpAny_bind (a_parts hs pl pu ?_)
    refine wpAny_bind (a_items hx ?_)
    refine wpAny_bind (wpAny_of_eq (sliceIndices_raw lo hi none vs.toArray.size (by simp)) ?_)
    exact wpAny_bind (wpAny_newObj_type (wpAny_pure (p _ _ ⟨rfl, rfl⟩)) (Nat.le_trans (slicePick_size_le vs.toArray lo hi none) (by rw [List.size_toArray]; omega)))
  · rintro u s' ⟨rfl, rfl⟩
    exact wpAny_pure h
theorem a_setslice {sl yl : Addr} {vl vu : Value} {lo hi : Option Int} {ys ws : List Value} {Q : Unit → Shared → Prop} (X : (hd.heap_1 w'.params).In s.heap) (hx : s.heap.get? x = some (acc dx vs ep)) (hs : s.heap.IsSliceOf sl vl vu .none) (pl : IsPart vl lo) (pu : IsPart vu hi)
    (hy : s.heap.IsList yl ys.toArray) (hz : vs.length ≤ 500) (hz2 : ys.length ≤ 500)
    (hw : vs.toArray.extract 0 (sliceBounds lo hi none vs.length).1.toNat ++ ys.toArray ++ vs.toArray.extract (max (sliceBounds lo hi none vs.length).1 (sliceBounds lo hi none vs.length).2.1).toNat vs.length = ws.toArray) (hz3 : ws.length ≤ 1000)
    (h : ∀ h' ep', h'.get? x = some (acc dx ws ep') → Heap.SameBut x s.heap h' → Q () { s with heap := h' }) : wpAny (model prog w) A (setItem (.ref x) (.ref sl) (.ref yl)) Q E s := by
  have hsz : (1000000 : Nat) ≤ sizeLine := Nat.le_of_ble_eq_true (by decide +kernel)
  obtain ⟨oy, hoy, hcy, ney, hdy⟩ := id hy
  have hxy : x ≠ yl := by
    rintro rfl
    rw [hx] at hoy
    cases hoy
    cases hcy
  unfold setItem
  try with_reducible refine wpAny_holding ?_
  first | refine wpAny_bind (wpAny_pure ?_) | skip
  refine wpAny_bind (a_seqKey X hx ?_)
  refine wpAny_bind (a_callSpecial (R := fun u s' => ∃ h' ep', u = .none ∧ s' = { s with heap := h' } ∧ h'.get? x = some (acc dx ws ep') ∧ Heap.SameBut x s.heap h') (n := "__setitem__") X hx (by kernel_rfl) slot_list_setitem entry_list_setitem (.inl (by decide +kernel)) (by decide +kernel) (args_list_setitem _ _ _) (fun {A' E' P} p => ?_) ?_)
  · show wpAny _ _ (Builtin.List.listSubscript? (.ref sl) >>= _) _ _ s
    refine wpAny_bind (a_noSub hs ?_)
    show wpAny _ _ (typeOf (.ref sl) >>= _) _ _ s
    obtain ⟨os, hos, hcs, hds⟩ := id hs
    have hTs : s.TypeIs (.ref sl) "slice" := ⟨os, hos, hcs⟩
    refine wpAny_bind (wpAny_typeOf hTs ?_)
    rw [if_neg (by decide)]
    refine wpAny_bind (a_parts hs pl pu ?_)
    have e1 : Builtin.List.listSameRef (.ref x) (.ref yl) = false := by simp [Builtin.List.listSameRef, hxy]
    dsimp only
    rw [e1]
    refine PySem.W.KFB.if_not rfl ?_
    have hall : wpAny (model prog w) A' (Builtin.List.listAllItems (.ref yl) "must assign iterable to extended slice") (fun a s' => a = ys.toArray ∧ s' = s) E' s := by
      unfold Builtin.List.listAllItems
      refine wpAny_bind (wpAny_typeOf hy.typeIs ?_)
      refine PySem.W.KFB.if_so (by decide) ?_
      unfold Builtin.List.listItems
      exact wpAny_bind (wpAny_seqItems hoy hdy (wpAny_pure ⟨rfl, rfl⟩))
    refine wpAny_bind (wpAny_mono hall ?_ fun _ _ e => e)
    rintro a s' ⟨rfl, rfl⟩
    refine wpAny_bind (a_items hx ?_)
    refine wpAny_bind (wpAny_of_eq (sliceIndices_raw lo hi none vs.toArray.size (by simp)) ?_)
    dsimp only
    refine PySem.W.KFB.if_so (by rfl) ?_
    refine wpAny_bind (wpAny_rule ?_)
    refine PySem.W.KFB.if_not (by unfold Builtin.List.listTooLong; simp; omega) ?_
    refine wpAny_bind (show wpAny _ _ (updateSeq x _) _ _ s' from a_update (ws := ws) hx ?_ (by omega) hz3 fun h' ep' e hs' => ?_)
    · rw [← hw]; simp
    · exact wpAny_bind (wpAny_letGo (wpAny_bind (wpAny_pure (wpAny_pure (p _ _ ⟨h', ep', rfl, rfl, e, hs'⟩)))))
  · rintro u s' ⟨h', ep', rfl, rfl, e, hs'⟩
    exact wpAny_pure (h _ _ e hs')
end
end
section -- A12
set_option maxHeartbeats 300000
noncomputable def strAt (v : Value) : Bool := match v with | .str _ _ => true | _ => false
noncomputable def intAt (v : Value) : Bool := match v with | .int _ _ => true | _ => false
noncomputable def boolAt (v : Value) : Bool := match v with | .bool _ => true | _ => false
theorem strAt_of {v : Value} (h : strAt v = true) : ∃ a t, v = .str a t := by cases v <;> first | exact ⟨_, _, rfl⟩ | cases h
theorem intAt_of {v : Value} (h : intAt v = true) : ∃ a t, v = .int a t := by cases v <;> first | exact ⟨_, _, rfl⟩ | cases h
theorem boolAt_of {v : Value} (h : boolAt v = true) : ∃ a, v = .bool a := by cases v <;> first | exact ⟨_, rfl⟩ | cases h
noncomputable def codeHdIn (K : Frag) (c P : Addr) : Bool := match K.lookup c with
  | some ⟨.type T, _, .fields vs, _⟩ => T == "code" && (vs[11]? == some (.ref P) && (vs.getD 11 .none == .ref P && (strAt (vs.getD 18 .none) && (intAt (vs.getD 7 .none) && (boolAt (vs.getD 9 .none) && (intAt (vs.getD 10 .none) && c != P))))))
  | _ => false
theorem codeHd_of {K : Frag} {h : Heap} {c P : Addr} (X : K.In h) (e : codeHdIn K c P = true) : CodeHd h c P := by
  unfold codeHdIn at e
  split at e
  · rename_i T od vs sl ho
    simp only [Bool.and_eq_true] at e
    obtain ⟨e1, e2, e3, e4, e5, e6, e7, e8⟩ := e
    obtain ⟨f, tf, e4⟩ := strAt_of e4
    obtain ⟨fl, tg, e5⟩ := intAt_of e5
    obtain ⟨b, e6⟩ := boolAt_of e6
    obtain ⟨i, ti, e7⟩ := intAt_of e7
    exact ⟨_, vs, f, tf, fl, tg, b, i, ti, X _ _ ho, by rw [beq_iff_eq.mp e1], rfl, beq_iff_eq.mp e2, beq_iff_eq.mp e3, e4, e5, e6, e7, by simpa using e8⟩
  · cases e
theorem len_name {w : World} {mean : ExcName → Option Value} {mg mb : Str → Option Value} {A : Around} {E : Value → Shared → Prop} {s : Shared} {gb : Heap} {env : Env} {p : Pos} {Q : Value → Shared → Prop} (B : Base w mean mg mb gb) (hk : Grows gb s.heap) (hg : env.globals = mainGlobals) (hb : env.builtins = builtinsNs) (h1 : env.scope.kind = .function) (h2 : env.kindOf (Str.ofString "len") = some .globalImplicit)
    (h : Q (.builtin "len") s) : wpAny (model PySem.Challenge.rw_xo0029_01.row.prog w) A (eval (.Name (Str.ofString "len") p) env) Q E s := by
  rw [eval_Name _ _ _ (by decide)]
  refine wpAny_bind (wpAny_standAt ?_)
  refine ks_loadName_global h1 h2 (loadGlobal_builtin (by rw [hg]; exact B.T.g.keeps hk) (mg_none_of B.K B.T.g (by kernel_rfl)) (by rw [hb]; exact B.T.b.keeps hk) ((B.T.builtins _ (by decide +kernel)).trans (by first | boot_by_name | rfl | kernel_rfl)) h)
theorem loc_name {w : World} {A : Around} {E : Value → Shared → Prop} {s : Shared} {gb : Heap} {env : Env} {p : Pos} {x : Str} {v : Value} {m : Str → Option Value} {Q : Value → Shared → Prop} (F : Fr gb env.locals s.heap m) (hv : m x = some v) (h1 : env.scope.kind = .function) (h2 : env.scope.names.lookup x = some .local) (hd : (x == ("__debug__" : Str)) = false)
    (h : Q v s) : wpAny (model PySem.Challenge.rw_xo0029_01.row.prog w) A (eval (.Name x p) env) Q E s := by
  rw [eval_Name _ _ _ hd]
  exact wpAny_bind (wpAny_standAt (wpAny_loadName_local h1 h2 F.ns hv h))
noncomputable abbrev sc188 : Scope := { kind := ScopeKind.function, names := [(Str.ofString ".0", NameKind.local), (Str.ofString "fws", NameKind.local), (Str.ofString "part", NameKind.local), (Str.ofString "len", NameKind.globalImplicit)], isGenerator := true, isCoroutine := false }
noncomputable abbrev en188 (L : Addr) : Env := envOf (Str.ofString "_Accumulator.__len__") { kind := ScopeKind.function, names := [(Str.ofString "self", NameKind.local), (Str.ofString "sum", NameKind.globalImplicit)], isGenerator := false, isCoroutine := false } L 188 (.ref 187)
noncomputable abbrev el188 : Expr := ((Expr.Name (Str.ofString "len") { line := 103, col := 20, endLine := 103, endCol := 23 }).Call [Expr.Name (Str.ofString "fws") { line := 103, col := 24, endLine := 103, endCol := 27 }] [] { line := 103, col := 20, endLine := 103, endCol := 28 }).BinOp Operator.Add ((Expr.Name (Str.ofString "len") { line := 103, col := 31, endLine := 103, endCol := 34 }).Call [Expr.Name (Str.ofString "part") { line := 103, col := 35, endLine := 103, endCol := 39 }] [] { line := 103, col := 31, endLine := 103, endCol := 40 }) { line := 103, col := 20, endLine := 103, endCol := 40 }
theorem words_A12_1 : True := by
  k_with_none
  w_top off
  k_with "eval Name" => (first
  | (refine len_name (by assumption) (Fr.keep (by assumption)) rfl rfl rfl rfl ?_)
  | (refine loc_name (by assumption) (by assumption) rfl rfl (by decide) ?_))
  trivial
theorem elt188 (w : World) (mean : ExcName → Option Value) (mg mb : Str → Option Value) (A : Around) (s : Shared) (E : Value → Shared → Prop) (gb : Heap) (C L : Addr) (code : Value) (m : Str → Option Value) (a b : Str) (ta tb : Tok) (rm : Room A 3) (B : Base w mean mg mb gb)
    (F : Fr gb C s.heap m) (h1 : m (Str.ofString "fws") = some (.str a ta)) (h2 : m (Str.ofString "part") = some (.str b tb)) (ha : a.length ≤ 100) (hb : b.length ≤ 100) :
    wpAny (model PySem.Challenge.rw_xo0029_01.row.prog w) A (eval el188 (genEnv sc188 [] C code builtinsNs (en188 L))) (fun y s₃ => (∃ t, y = .int ((a.length : Int) + b.length) t) ∧ Keeps s s₃) E s := by
  obtain ⟨hh, dp, fr, gd, un⟩ := A
  obtain ⟨g, gs, dr, tk, os⟩ := s
  obtain rfl : hh = none := rm.hh
  dsimp only at F
  generalize hQ : (fun (y : Value) (s₃ : Shared) => (∃ t, y = Value.int ((a.length : Int) + b.length) t) ∧ Keeps ⟨g, gs, dr, tk, os⟩ s₃) = Q
  k_steps
  subst hQ
  exact ⟨⟨_, rfl⟩, ⟨_, _, rfl, fun _ _ e => e⟩⟩
end
section -- A13
set_option maxHeartbeats 600000
noncomputable abbrev pos188 : Pos := { line := 103, col := 19, endLine := 103, endCol := 63 }
theorem words_A13_1 : True := by
  k_with_none
  w_top off
  k_with "mn_enter" => ((
  (have Xᵥ := Base.K (by assumption)); (have Tᵥ := Base.T (by assumption)); revert Tᵥ; revert Xᵥ; k_fill; intro _ _
  k_dflt (refine' enter0 ?k1ᵥ ?k2ᵥ ?k3ᵥ ?k4ᵥ ?k5ᵥ ?k6ᵥ ?k7ᵥ ?k8ᵥ ?k9ᵥ ?k10ᵥ ?_; (case k1ᵥ => exact Base.keeps (by assumption) (by assumption)); (case k2ᵥ => exact Room.depth (by assumption)); (case k3ᵥ => k_is); (case k4ᵥ => k_is); (case k5ᵥ => first | exact BindsTo.of_eq rfl | exact binds_K (by k_in) rfl (by k_is) rfl rfl rfl | fail "m_enter: no rule for these arguments"); (case k6ᵥ => exact locs rfl); (case k7ᵥ => decide); (case k8ᵥ => exact rfl); (case k9ᵥ => exact rfl); (case k10ᵥ => exact rfl); k_whole; intro _ _ _ _; (try dsimp only); (try k_fold))))
  k_with "getAttr ref" => ((refine' a_getN ?k1ᵥ ?k2ᵥ ?k3ᵥ ?k4ᵥ ?k5ᵥ ?_; (case k1ᵥ => k_asm); (case k2ᵥ => k_in); (case k3ᵥ => k_asm); (case k4ᵥ => k_mem); (case k5ᵥ => k_mem)))
  trivial
theorem AccIn.fn {more : List (Addr × Obj)} {x dx : Addr} {vs : List Value} {n : Int} {parts : List (Str × Str)} (I : AccIn more x dx vs n parts) : ∃ (Ts : Nat → Addr) (u u' : Nat → Tok), ∀ (j : Nat) (p : Str × Str), parts[j]? = some p → vs[j]? = some (Value.ref (Ts j)) ∧ (Ts j, tupS p (u j) (u' j)) ∈ more := by
  have h : ∀ j : Nat, ∃ q : Addr × Tok × Tok, ∀ p : Str × Str, parts[j]? = some p → vs[j]? = some (Value.ref q.1) ∧ (q.1, tupS p q.2.1 q.2.2) ∈ more := fun j => by
    cases e : parts[j]? with
    | none => exact ⟨(0, 0, 0), fun p h => by cases h⟩
    | some p =>
      obtain ⟨T, a, b, h1, h2⟩ := I.tp j p e
      exact ⟨(T, a, b), fun p' h => by cases h; exact ⟨h1, h2⟩⟩
  exact ⟨fun j => (Classical.choose (h j)).1, fun j => (Classical.choose (h j)).2.1, fun j => (Classical.choose (h j)).2.2, fun j => Classical.choose_spec (h j)⟩
noncomputable def valsOf (parts : List (Str × Str)) (u u' : Nat → Tok) (j : Nat) : Array Value := match parts[j]? with
  | some p => #[.str p.1 (u j), .str p.2 (u' j)]
  | none => #[]
noncomputable def lenAt (parts : List (Str × Str)) (j : Nat) : Int := match parts[j]? with | some p => (p.1.length : Int) + p.2.length | none => 0
theorem words_A13_2 : True := by
  k_with "getMethod ref" => ((k_here; k_dflt (refine' a_methodN ?k1ᵥ ?k2ᵥ ?k3ᵥ ?k4ᵥ ?k5ᵥ ?k6ᵥ ?k7ᵥ ?k8ᵥ ?k9ᵥ ?_; (case k1ᵥ => k_asm); (case k2ᵥ => k_in); (case k3ᵥ => k_asm); (case k4ᵥ => k_mem); (case k5ᵥ => k_mem); (case k6ᵥ => k_is); (case k7ᵥ => k_is); (case k8ᵥ => first | exact .inl rfl | exact .inr rfl); (case k9ᵥ => exact rfl))))
  k_with "eval GeneratorExp" => ((refine unstop ?_))
  trivial
theorem preFrom_le {st : Int} {val : Nat → Int} (h : ∀ j, 0 ≤ val j ∧ val j ≤ 16) : ∀ j : Nat, st ≤ preFrom st val j ∧ preFrom st val j ≤ st + 16 * j
  | 0 => by simp [preFrom]
  | j + 1 => by have h1 := preFrom_le (st := st) h j; have h2 := h j; simp only [preFrom]; omega
theorem fn_alen (w : World) (mean : ExcName → Option Value) (mg mb : Str → Option Value) (x dx : Addr) (T : List Addr) (hT : 183 ∈ T) (vs : List Value) (n : Int) (parts : List (Str × Str)) (hz : vs.length ≤ 20) (hn : 0 ≤ n ∧ n ≤ 1000) (hsz : ∀ p ∈ parts, p.1.length ≤ 8 ∧ p.2.length ≤ 8) :
   FnA os₀ w mean mg mb 8 188 [.ref x] T (fun more => AccIn more x dx vs n parts ∧ ∃ ps, (183, tabObj ps) ∈ more ∧ OneCode pos188 ps) (fun v _ more' => ∃ t ps', v = .int (preFrom n (lenAt parts) parts.length) t ∧ AccIn more' x dx vs n parts ∧ (183, tabObj ps') ∈ more' ∧ OneCode pos188 ps') := by
  refine FnA.intro fun dp fr gd un g gs dr tk os Q E gb more rm B hk hzz ha hbr tch Pᵢ ret => ?_
  have I := Pᵢ.1
  obtain ⟨ps, hps, hone⟩ := Pᵢ.2
  clear Pᵢ
  have B2 := B.keeps (gAt_base hk ha)
  have k2 : Grows (gAt g more) g := gAt_grows
  have a2 := gAt_above ha
  have z2 : (gAt g more).objs.size ≤ g.objs.size := Nat.le_of_eq (hideAll_size _ _)
  have gk := gAt_base hk ha
  clear B hk
  walk_at "mn_enter"
  rename_i Lx hx0 F0 N0
  have N1 := News.lower F0 N0 k2 a2
  have F1 := Fr.lower F0 k2 z2
  rw [List.nil_append] at N1
  have F2 := (show Fr (gAt g more) _ _ (fun y => List.lookup y [(Str.ofString "self", Value.ref x)]) from F1)
  obtain ⟨ep, hob⟩ := I.ob
  obtain ⟨hs, tk1, t1, k1, hdc⟩ := I.dc
  have N2 := dupN (dupN N1 hdc) (.tail _ hob)
  clear N1 F1 F0 N0
  k_steps
  unfold Stop
  (rename Fr _ _ _ _ => F3); (rename News _ _ _ _ => N3)
  obtain ⟨Ts, u, u', hTs⟩ := I.fn
  have X2 := Base.K B2
  have h188 : CodeHd hx0 187 183 := codeHd_of (X2.keeps F3.keep) (by kernel_rfl)
  refine gen_pairs (x := x) (dx := dx) (vs := vs) (ep := ep) (c := 187) (P := 183) (ps := ps) (Ts := Ts) (vals := valsOf parts u u') (Fv := fun j v => ∃ t, v = .int (lenAt parts j) t) B2 F3 rfl rfl h188 (N3 _ (.tail _ (.tail _ hps))).1 hone (N3 _ (.tail _ (.tail _ hps))).2.2 (N3 _ (.head _)).1 ?_ ?_ ?_ rfl rfl ?_ (by decide) (by rfl) (by rfl) (by rfl) (by decide) rfl (Room.deeper (d := 7) rm).depth ?_ ?_ ?_ ?_
  · intro j hj
    rw [I.ln] at hj
    exact (hTs j _ (List.getElem?_eq_getElem hj)).1
  · intro j hj
    rw [I.ln] at hj
    have e := List.getElem?_eq_getElem hj
    unfold valsOf
    rw [e]
    exact ⟨_, (N3 _ (.tail _ (.tail _ (hTs j _ e).2))).1, rfl, _, rfl⟩
  · intro j hj
    rw [I.ln] at hj
    have e := List.getElem?_eq_getElem hj
    unfold valsOf
    rw [e]
    exact ⟨_, _, rfl⟩
  · rfl
  · k_steps
  · intro y; rfl
  · intro C code A' E' i va vb t' m₂ hA hD hU hi hv Fx ma9 mb9
    rw [I.ln] at hi
    have e := List.getElem?_eq_getElem hi
    unfold valsOf at hv
    rw [e] at hv
    dsimp only at hv
    have e1 : va = .str parts[i].1 (u i) := by have := congrArg (fun a : Array Value => a[0]?) hv; simpa using this.symm
    have e2 : vb = .str parts[i].2 (u' i) := by have := congrArg (fun a : Array Value => a[1]?) hv; simpa using this.symm
    subst e1 e2
    have hd0 := rm.hd
    have hu0 := rm.hu
    have hD' : A'.depth ≤ dp + 1 + 1 := hD
    have hU' : A'.units ≤ un + 3 + 8 := hU
    have hpm := hsz _ (List.getElem_mem hi)
    dsimp only at hd0 hu0
    refine wpAny_mono (elt188 w mean mg mb A' t' E' (gAt g more) C Lx code m₂ _ _ _ _ ⟨hA, by omega, by omega⟩ B2 Fx ma9 mb9 (by omega) (by omega)) (fun y s₃ h => ⟨?_, h.2⟩) fun _ _ x => x
    unfold lenAt
    rw [e]
    exact h.1
  · intro c' a s₅ hx5 hp5 hb5 ho5 hd5 hg5
    replace hx5 : Heap.ExtBut 183 hx0 s₅.heap := hx5
    have hP3 := (N3 _ (.tail _ (.tail _ hps))).1
    have F5 : Fr (gAt g more) Lx s₅.heap _ := fr_ext F3 hP3 (N3 _ (.tail _ (.tail _ hps))).2.2 hx5
    have ne : ∀ {b : Addr} {o : Obj}, (b, o) ∈ more → o ≠ tabObj ps → b ≠ 183 := fun hb hc q => by
      subst q
      have e1 := (ha _ hb).1
      rw [(ha _ hps).1] at e1
      exact hc (Option.some.inj e1).symm
    have N5 : News (gAt g more) Lx s₅.heap [(x, acc dx vs ep), (dx, dictOf (iniE hs tk1 n t1) k1)] := fun p hp => by
      rcases List.mem_cons.mp hp with rfl | hp
      · exact ⟨hx5 _ _ (ne hob (fun q => by cases q)) (N3 _ (.head _)).1, (N3 _ (.head _)).2⟩
      · rcases List.mem_cons.mp hp with rfl | hp
        · exact ⟨hx5 _ _ (ne hdc (fun q => by cases q)) (N3 _ (.tail _ (.head _))).1, (N3 _ (.tail _ (.head _))).2⟩
        · cases hp
    have hg6 := hg5 (hx0.objs.size - 1)
    have kg5 : ∀ b o, b ≠ 183 → g.get? b = some o → s₅.heap.get? b = some o ∧ b ≤ hx0.objs.size - 1 := fun b o hb e => by
      have e0 : hx0.get? b = some o := by
        by_cases hm : b ∈ more.map (·.1)
        · obtain ⟨q, hq, rfl⟩ := List.mem_map.mp hm
          have h1 := (N3 q (.tail _ (.tail _ hq))).1
          rw [(ha q hq).1] at e
          rw [h1, Option.some.inj e]
        · exact F3.keep _ _ (hideAll_get _ e hm)
      exact ⟨hx5 _ _ hb e0, Nat.le_sub_one_of_lt (Heap.lt_size e0)⟩
    have l183 : 183 ≤ hx0.objs.size - 1 := Nat.le_sub_one_of_lt (Heap.lt_size hP3)
    have hg7 := hg6 (Nat.sub_lt (Nat.lt_of_le_of_lt (Nat.zero_le _) (Heap.lt_size hP3)) (by decide))
    clear hx5 N3 F3
    k_steps
    have hv16 : ∀ j : Nat, 0 ≤ lenAt parts j ∧ lenAt parts j ≤ 16 := fun j => by
      unfold lenAt
      cases e : parts[j]? with
      | none => simp
      | some p =>
        have := hsz p (List.mem_of_getElem? e)
        dsimp only; omega
    refine sum_gen (Gen.tok hg7 (Nat.le_succ _)) ⟨by omega, by omega⟩ (lenAt parts) (fun j v h => h) (fun j hj => ?_) fun s' t' kp gb' ob' _ => ?_
    · have h1 := hv16 j
      have h2 := preFrom_le (st := n) hv16 (j + 1)
      exact ⟨⟨by omega, by omega⟩, ⟨by omega, by omega⟩⟩
    · show Q _ s'
      rw [I.ln]
      have m183 : (183, tabObj #[rawInt pos188.line, rawInt pos188.col, .ref c']) ∈ swapAt more 183 (tabObj #[rawInt pos188.line, rawInt pos188.col, .ref c']) := swapAt_mem hps
      refine ret _ s' (swapAt more 183 (tabObj #[rawInt pos188.line, rawInt pos188.col, .ref c'])) ⟨fun b o hb e => ?_, fun q hq => ?_, fun q hq => ?_, tch⟩ ⟨gb' (hb5 hbr.1), ob'.trans (ho5.trans hbr.2)⟩ ⟨_, _, rfl, ⟨⟨ep, swapAt_ne hob (ne hob (fun q => by cases q))⟩, ⟨hs, tk1, t1, k1, swapAt_ne hdc (ne hdc (fun q => by cases q))⟩, I.ln, fun j p e => ?_⟩, m183, .inr ⟨c', rfl⟩⟩
      · obtain ⟨e1, e2⟩ := kg5 b o (fun q => hb (q ▸ hT)) e
        exact kp _ _ e2 e1
      · obtain ⟨r, hr, e⟩ := List.mem_map.mp hq
        by_cases hx' : r.1 = 183
        · rw [if_pos hx'] at e; subst e
          exact ⟨kp _ _ l183 hp5, (ha _ hps).2⟩
        · rw [if_neg hx'] at e; subst e
          obtain ⟨e1, e2⟩ := kg5 _ _ hx' (ha _ hr).1
          exact ⟨kp _ _ e2 e1, (ha _ hr).2⟩
      · obtain ⟨r, hr, e⟩ := List.mem_map.mp hq
        by_cases hx' : r.1 = 183
        · rw [if_pos hx'] at e; subst e; exact .inr ⟨_, hps⟩
        · rw [if_neg hx'] at e; subst e; exact .inr ⟨_, hr⟩
      · obtain ⟨Tj, a1, b1, h1, h2⟩ := I.tp j p e
        exact ⟨Tj, a1, b1, h1, swapAt_ne h2 (ne h2 (fun q => by cases q))⟩
end
section -- A16
set_option maxHeartbeats 400000
section
variable {w : World} {mean : ExcName → Option Value} {mg mb : Str → Option Value} {A : Around} {s : Shared} {Q E : Value → Shared → Prop} {h₀ gb h h' : Heap} {L x dx : Addr} {m : Str → Option Value} {pre news more more' : List (Addr × Obj)} {d : Nat} {f : Addr} {args : List Value} {T : List Addr} {Pre : List (Addr × Obj) → Prop} {Post : Value → List (Addr × Obj) → List (Addr × Obj) → Prop}
theorem Went.news2 (W : Went gb h h' T more more') (F : Fr gb L h m) (N : News gb L h (pre ++ more)) (hp : ∀ p ∈ pre, p.1 ∉ T) : News gb L h' (pre ++ more') := fun p hp' => by
  rcases List.mem_append.mp hp' with hm | hm
  · obtain ⟨a, b, c⟩ := N p (List.mem_append_left _ hm)
    exact ⟨W.kept _ _ (hp p hm) a, b, c⟩
  · obtain ⟨a, b⟩ := W.abv p hm
    refine ⟨a, fun e => ?_, b⟩
    rcases W.src p hm with z | ⟨o, z⟩
    · obtain ⟨o, es, ep, e1, _⟩ := F.ns
      rw [e, e1] at z; cases z
    · exact (N _ (List.mem_append_right _ z)).2.1 e
theorem News.fewer {ns : List (Addr × Obj)} (N : News gb L h news) (hs : ∀ p ∈ ns, p ∈ news) : News gb L h ns := fun p hp => N p (hs p hp)
/-- a method is called that writes nothing old -/
theorem callA0 (hf : FnA os₀ w mean mg mb d f args [] Pre Post) (r : Room A d) (B : Base w mean mg mb h₀) (F : Fr h₀ L s.heap m) (N : News h₀ L s.heap news) (hs : ∀ p ∈ more, p ∈ news) (hbr : Still os₀ s) (pr : Pre more)
    (h : ∀ v s' more', Post v more more' → Fr h₀ L s'.heap m → News h₀ L s'.heap news → Still os₀ s' → Grows s.heap s'.heap → Q v s') : wpAny (model PySem.Challenge.rw_xo0029_01.row.prog w) A (call (.ref f) args) Q E s :=
  hf A s Q E h₀ more r B F.keep (Nat.le_of_lt (Nat.lt_of_le_of_lt F.above F.ns.lt)) (fun p hp => ⟨(N p (hs p hp)).1, (N p (hs p hp)).2.2⟩) hbr (fun a ha => by cases ha) pr fun v s' more' W G P =>
    have k : Grows s.heap s'.heap := fun b o e => W.kept b o (by simp) e
    h v s' more' P (F.grownK k) (N.grown k) G k
/-- a method is called -/
theorem callA (hf : FnA os₀ w mean mg mb d f args T Pre Post) (r : Room A d) (B : Base w mean mg mb h₀) (F : Fr h₀ L s.heap m) (N : News h₀ L s.heap (pre ++ more)) (hp : ∀ p ∈ pre, p.1 ∉ T) (hbr : Still os₀ s) (tch : ∀ a ∈ T, ∃ o, (a, o) ∈ more) (pr : Pre more)
    (h : ∀ v s' more', Post v more more' → Fr h₀ L s'.heap m → News h₀ L s'.heap (pre ++ more') → Still os₀ s' → Went h₀ s.heap s'.heap T more more' → Q v s') : wpAny (model PySem.Challenge.rw_xo0029_01.row.prog w) A (call (.ref f) args) Q E s :=
  hf A s Q E h₀ more r B F.keep (Nat.le_of_lt (Nat.lt_of_le_of_lt F.above F.ns.lt)) (fun p hp => ⟨(N p (List.mem_append_right _ hp)).1, (N p (List.mem_append_right _ hp)).2.2⟩) hbr tch pr fun v s' more' W G P =>
    h v s' more' P (W.fr F (News.fewer N fun p hp => List.mem_append_right _ hp)) (W.news2 F N hp) G W
theorem Went.swap {o o' : Obj} {Ts : List Addr} (a : Above gb h more) (ho : (x, o) ∈ more) (hx : x ∈ Ts) (tch : ∀ a ∈ Ts, ∃ o, (a, o) ∈ more)
    (k : ∀ b o, b ≠ x → h.get? b = some o → h'.get? b = some o) (e2 : h'.get? x = some o') : Went gb h h' Ts more (swapAt more x o') where
  kept := fun b o hb e => k b o (fun q => hb (q ▸ hx)) e
  abv := fun q hq => by
    obtain ⟨r, hr, e⟩ := List.mem_map.mp hq
    by_cases hx' : r.1 = x
    · rw [if_pos hx'] at e; subst e
      exact ⟨e2, (a _ ho).2⟩
    · rw [if_neg hx'] at e; subst e
      exact ⟨k _ _ hx' (a _ hr).1, (a _ hr).2⟩
  src := fun q hq => by
    obtain ⟨r, hr, e⟩ := List.mem_map.mp hq
    by_cases hx' : r.1 = x
    · rw [if_pos hx'] at e; subst e; exact .inr ⟨_, ho⟩
    · rw [if_neg hx'] at e; subst e; exact .inr ⟨_, hr⟩
  tch := tch
/-- one more object, made by the call -/
theorem Went.made {D : Addr} {o : Obj} {Ts : List Addr} (W : Went gb h h' Ts more more') (hD : h.get? D = none) (hg : gb.get? D = none) (e : h'.get? D = some o) : Went gb h h' Ts more ((D, o) :: more') where
  kept := W.kept
  abv := fun q hq => by
    rcases List.mem_cons.mp hq with rfl | hq
    · exact ⟨e, hg⟩
    · exact W.abv q hq
  src := fun q hq => by
    rcases List.mem_cons.mp hq with rfl | hq
    · exact .inl hD
    · exact W.src q hq
  tch := W.tch
/-- texts of pairs in a ledger -/
structure PartsIn (more : List (Addr × Obj)) (vs : List Value) (parts : List (Str × Str)) : Prop where
  ln : vs.length = parts.length
  tp : ∀ (j : Nat) (p : Str × Str), parts[j]? = some p → ∃ (T : Addr) (t t' : Tok), vs[j]? = some (Value.ref T) ∧ (T, tupS p t t') ∈ more
theorem AccIn.parts {vs : List Value} {n : Int} {parts : List (Str × Str)} (I : AccIn more x dx vs n parts) : PartsIn more vs parts := ⟨I.ln, I.tp⟩
theorem PartsIn.nil : PartsIn more [] [] := ⟨rfl, fun j p h => by simp at h⟩
theorem PartsIn.of {vs : List Value} {parts : List (Str × Str)} (I : PartsIn more vs parts) (hs : ∀ (T : Addr) (p : Str × Str) (t t' : Tok), (T, tupS p t t') ∈ more → (T, tupS p t t') ∈ more') : PartsIn more' vs parts :=
  ⟨I.ln, fun j p h => by obtain ⟨T, t, t', h1, h2⟩ := I.tp j p h; exact ⟨T, t, t', h1, hs _ _ _ _ h2⟩⟩
theorem PartsIn.append {vs us : List Value} {p1 p2 : List (Str × Str)} (I : PartsIn more vs p1) (J : PartsIn more us p2) : PartsIn more (vs ++ us) (p1 ++ p2) where
  ln := by simp [I.ln, J.ln]
  tp := fun j p h => by
    have hl := I.ln
    by_cases hj : j < p1.length
    · rw [List.getElem?_append_left hj] at h
      rw [List.getElem?_append_left (by omega)]
      exact I.tp j p h
    · rw [List.getElem?_append_right (by omega)] at h
      rw [List.getElem?_append_right (by omega), hl]
      exact J.tp _ p h
theorem PartsIn.split {vs : List Value} {p1 p2 : List (Str × Str)} (I : PartsIn more vs (p1 ++ p2)) : PartsIn more (vs.take p1.length) p1 ∧ PartsIn more (vs.drop p1.length) p2 := by
  have hl := I.ln
  rw [List.length_append] at hl
  refine ⟨⟨by rw [List.length_take]; omega, fun j p h => ?_⟩, ⟨by rw [List.length_drop]; omega, fun j p h => ?_⟩⟩
  · have hj : j < p1.length := by
      rcases Nat.lt_or_ge j p1.length with e | e
      · exact e
      · rw [List.getElem?_eq_none e] at h; cases h
    obtain ⟨T, t, t', h1, h2⟩ := I.tp j p (by rw [List.getElem?_append_left hj]; exact h)
    exact ⟨T, t, t', by rw [List.getElem?_take_of_lt hj]; exact h1, h2⟩
  · obtain ⟨T, t, t', h1, h2⟩ := I.tp (p1.length + j) p (by rw [List.getElem?_append_right (by omega)]; rw [show p1.length + j - p1.length = j by omega]; exact h)
    exact ⟨T, t, t', by rw [List.getElem?_drop]; exact h1, h2⟩
theorem PartsIn.one {T : Addr} {p : Str × Str} {t t' : Tok} (h : (T, tupS p t t') ∈ more) : PartsIn more [.ref T] [p] := ⟨rfl, fun j q hj => by
  cases j with
  | zero => cases hj; exact ⟨T, t, t', rfl, h⟩
  | succ j => simp at hj⟩
theorem swap_keeps {o' : Obj} (hx : ∃ o, (x, o) ∈ more ∧ o.cls ≠ .type "tuple") (a : Above gb h more) : ∀ (T : Addr) (p : Str × Str) (t t' : Tok), (T, tupS p t t') ∈ more → (T, tupS p t t') ∈ swapAt more x o' := fun T p t t' hm => by
  obtain ⟨o, ho, hc⟩ := hx
  refine swapAt_ne hm fun e => ?_
  subst e
  have e1 := (a _ hm).1
  rw [(a _ ho).1] at e1
  have e2 : o = tupS p t t' := Option.some.inj e1
  exact hc (by rw [e2])
/-- the items of an _Accumulator are written anew -/
theorem AccIn.to {vs us : List Value} {n : Int} {parts ps : List (Str × Str)} {ep' : Nat} (I : AccIn more x dx vs n parts) (a : Above gb h more) (P : PartsIn more us ps) : AccIn (swapAt more x (acc dx us ep')) x dx us n ps := by
  obtain ⟨⟨ep, ho⟩, ⟨hs, tk, t₀, k, hd⟩, hl, ht⟩ := I
  have P' := P.of (swap_keeps (o' := acc dx us ep') ⟨_, ho, by simp⟩ a)
  refine ⟨⟨ep', swapAt_mem ho⟩, ⟨hs, tk, t₀, k, swapAt_ne hd fun e => ?_⟩, P'.ln, P'.tp⟩
  rw [e] at hd
  have e1 := (a _ hd).1
  rw [(a _ ho).1] at e1
  cases e1
theorem AccIn.incl {vs : List Value} {n : Int} {parts : List (Str × Str)} (I : AccIn more x dx vs n parts) (hs : ∀ q ∈ more, q ∈ more') : AccIn more' x dx vs n parts := by
  obtain ⟨⟨ep, ho⟩, ⟨hs', tk, t₀, k, hd⟩, hl, ht⟩ := I
  exact ⟨⟨ep, hs _ ho⟩, ⟨hs', tk, t₀, k, hs _ hd⟩, hl, fun j p e => by obtain ⟨T, t, t', h1, h2⟩ := ht j p e; exact ⟨T, t, t', h1, hs _ h2⟩⟩
end
end
section -- A23
set_option maxHeartbeats 300000
theorem words_A23_1 : True := by
  k_with_none
  w_top off
  k_with "wpAt" => ((ks_step "attributeBase Call"; k_here; k_dflt (refine' a_node ?k1ᵥ ?k2ᵥ ?k3ᵥ ?k4ᵥ ?k5ᵥ ?k6ᵥ ?k7ᵥ ?k8ᵥ ?k9ᵥ ?k10ᵥ ?k11ᵥ ?k12ᵥ ?k13ᵥ ?k14ᵥ ?k15ᵥ ?k16ᵥ ?k17ᵥ ?k18ᵥ ?k19ᵥ ?k20ᵥ ?k21ᵥ ?k22ᵥ ?k23ᵥ ?_; (case k1ᵥ => k_asm); (case k2ᵥ => k_in); (case k3ᵥ => k_asm); (case k4ᵥ => exact Base.T (by assumption)); (case k5ᵥ => k_is); (case k6ᵥ => rfl); (case k7ᵥ => rfl); (case k8ᵥ => k_mem); (case k9ᵥ => k_mem); (case k10ᵥ => k_is); (case k11ᵥ => rfl); (case k12ᵥ => first | rfl | decide +kernel); (case k13ᵥ => k_is); (case k14ᵥ => k_is); (case k15ᵥ => k_is); (case k16ᵥ => k_is); (case k17ᵥ => decide); (case k18ᵥ => rfl); (case k19ᵥ => rfl); (case k20ᵥ => rfl); (case k21ᵥ => rfl); (case k22ᵥ => decide +kernel); (case k23ᵥ => first | boot_by_name | rfl | kernel_rfl); intro _ _ _ _ l1ᵥ; (try k_lt l1ᵥ)))); (try (revert l1ᵥ; intro _))
  k_with "getMethod ref" => ((k_here; k_dflt (refine' sup_methodN ?k1ᵥ ?k2ᵥ ?k3ᵥ ?k4ᵥ ?k5ᵥ ?k6ᵥ ?k7ᵥ ?k8ᵥ ?k9ᵥ ?k10ᵥ ?k11ᵥ ?k12ᵥ ?k13ᵥ ?k14ᵥ ?k15ᵥ ?_; (case k1ᵥ => k_asm); (case k2ᵥ => k_in); (case k3ᵥ => k_asm); (case k4ᵥ => k_mem); (case k5ᵥ => k_mem); (case k6ᵥ => k_is); (case k7ᵥ => ks_is); (case k8ᵥ => decide); (case k9ᵥ => exact slot_wd_get); (case k10ᵥ => exact type_llen); (case k11ᵥ => exact entry_wd_get); (case k12ᵥ => exact args_wd_get); (case k13ᵥ => exact fun a b => wd_get a b (.inl ⟨rfl, rfl⟩)); (case k14ᵥ => exact rfl); (case k15ᵥ => kernel_rfl); intro _ _ _ _ l1ᵥ; (try k_lt l1ᵥ)))); (try (revert l1ᵥ; intro _))
  k_with "getMethod ref" => ((k_here; k_dflt (refine' sup_methodN ?k1ᵥ ?k2ᵥ ?k3ᵥ ?k4ᵥ ?k5ᵥ ?k6ᵥ ?k7ᵥ ?k8ᵥ ?k9ᵥ ?k10ᵥ ?k11ᵥ ?k12ᵥ ?k13ᵥ ?k14ᵥ ?k15ᵥ ?_; (case k1ᵥ => k_asm); (case k2ᵥ => k_in); (case k3ᵥ => k_asm); (case k4ᵥ => k_mem); (case k5ᵥ => k_mem); (case k6ᵥ => k_is); (case k7ᵥ => ks_is); (case k8ᵥ => decide); (case k9ᵥ => exact slot_wd_get); (case k10ᵥ => exact type_linit); (case k11ᵥ => exact entry_wd_get); (case k12ᵥ => exact args_wd_get); (case k13ᵥ => exact fun a b => wd_get a b (.inr ⟨rfl, rfl⟩)); (case k14ᵥ => exact rfl); (case k15ᵥ => kernel_rfl); intro _ _ _ _ l1ᵥ; (try k_lt l1ᵥ)))); (try (revert l1ᵥ; intro _))
  k_with "getMethod ref" => ((k_here; k_dflt (refine' sup_methodN ?k1ᵥ ?k2ᵥ ?k3ᵥ ?k4ᵥ ?k5ᵥ ?k6ᵥ ?k7ᵥ ?k8ᵥ ?k9ᵥ ?k10ᵥ ?k11ᵥ ?k12ᵥ ?k13ᵥ ?k14ᵥ ?k15ᵥ ?_; (case k1ᵥ => k_asm); (case k2ᵥ => k_in); (case k3ᵥ => k_asm); (case k4ᵥ => k_mem); (case k5ᵥ => k_mem); (case k6ᵥ => k_is); (case k7ᵥ => ks_is); (case k8ᵥ => decide); (case k9ᵥ => exact slot_md_get); (case k10ᵥ => exact type_pop); (case k11ᵥ => exact entry_md_get); (case k12ᵥ => exact args_md_get); (case k13ᵥ => exact fun a b => md_get a b); (case k14ᵥ => exact rfl); (case k15ᵥ => kernel_rfl); intro _ _ _ _ l1ᵥ; (try k_lt l1ᵥ)))); (try (revert l1ᵥ; intro _))
  k_with "callWith ref" => ((k_here; k_dflt (refine' callWith_bnd ?k1ᵥ ?k2ᵥ ?k3ᵥ ?_; (case k1ᵥ => k_asm); (case k2ᵥ => k_mem); (case k3ᵥ => first | exact .inl rfl | exact .inr rfl))))
  k_with "getMethod ref" => ((k_here; k_dflt (refine' a_methodN ?k1ᵥ ?k2ᵥ ?k3ᵥ ?k4ᵥ ?k5ᵥ ?k6ᵥ ?k7ᵥ ?k8ᵥ ?k9ᵥ ?_; (case k1ᵥ => k_asm); (case k2ᵥ => k_in); (case k3ᵥ => k_asm); (case k4ᵥ => k_mem); (case k5ᵥ => k_mem); (case k6ᵥ => k_is); (case k7ᵥ => k_is); (case k8ᵥ => first | exact .inl rfl | exact .inr rfl); (case k9ᵥ => exact rfl))))
  k_with "getAttr ref" => ((refine' a_getN ?k1ᵥ ?k2ᵥ ?k3ᵥ ?k4ᵥ ?k5ᵥ ?_; (case k1ᵥ => k_asm); (case k2ᵥ => k_in); (case k3ᵥ => k_asm); (case k4ᵥ => k_mem); (case k5ᵥ => k_mem)))
  k_with "call ref" => ((refine unstop ?_))
  trivial
theorem emp_name {w : World} {mean : ExcName → Option Value} {mg mb : Str → Option Value} {A : Around} {E : Value → Shared → Prop} {s : Shared} {gb : Heap} {env : Env} {p : Pos} {Q : Value → Shared → Prop} (B : Base w mean mg mb gb) (hk : Grows gb s.heap) (hg : env.globals = mainGlobals) (h1 : env.scope.kind = .function) (h2 : env.kindOf (Str.ofString "EMPTYSTRING") = some .globalImplicit)
    (h : ∀ t, Q (.str (Str.ofString "") t) s) : wpAny (model PySem.Challenge.rw_xo0029_01.row.prog w) A (eval (.Name (Str.ofString "EMPTYSTRING") p) env) Q E s := by
  rw [eval_Name _ _ _ (by decide)]
  refine wpAny_bind (wpAny_standAt ?_)
  have ht : nsIn (hd.heap_1 w.params) mainGlobals (Str.ofString "EMPTYSTRING") = some (some (.str (Str.ofString "") 379)) := by kernel_rfl
  exact ks_loadName_global h1 h2 (loadGlobal_global (by rw [hg]; exact B.T.g.keeps hk) (mg_of B.K B.T.g ht) (h _))
noncomputable abbrev sc195 : Scope := { kind := ScopeKind.function, names := [(Str.ofString ".0", NameKind.local), (Str.ofString "fws", NameKind.local), (Str.ofString "part", NameKind.local), (Str.ofString "EMPTYSTRING", NameKind.globalImplicit)], isGenerator := true, isCoroutine := false }
noncomputable abbrev en195 (L : Addr) : Env := envOf (Str.ofString "_Accumulator.__str__") { kind := ScopeKind.function, names := [(Str.ofString "self", NameKind.local), (Str.ofString "EMPTYSTRING", NameKind.globalImplicit)], isGenerator := false, isCoroutine := false } L 195 (.ref 194)
noncomputable abbrev el195 : Expr := ((Expr.Name (Str.ofString "EMPTYSTRING") { line := 106, col := 33, endLine := 106, endCol := 44 }).Attribute (Str.ofString "join") { line := 106, col := 33, endLine := 106, endCol := 49 }).Call [Expr.Tuple [Expr.Name (Str.ofString "fws") { line := 106, col := 51, endLine := 106, endCol := 54 }, Expr.Name (Str.ofString "part") { line := 106, col := 56, endLine := 106, endCol := 60 }] 0 { line := 106, col := 50, endLine := 106, endCol := 61 }] [] { line := 106, col := 33, endLine := 106, endCol := 62 }
/-- texts laid one behind the other -/
noncomputable def catS (xs : List Str) : Str := ⟨(xs.flatMap (·.cps.toList)).toArray⟩
theorem words_A23_2 : True := by
  k_with "eval Name" => (first
  | (refine emp_name (by assumption) (Fr.keep (by assumption)) rfl rfl rfl ?_; intro _)
  | (refine loc_name (by assumption) (by assumption) rfl rfl (by decide) ?_))
  trivial
theorem append_cat (a b : Str) : a ++ b = ⟨(a.cps.toList ++ b.cps.toList).toArray⟩ := by
  cases a; cases b
  show Str.mk _ = Str.mk _
  simp
theorem join_cat : ∀ xs : List Str, Txt.join (Str.ofString "") xs = catS xs := fun xs => by
  show Builtin.Str.glued _ _ = _
  rw [StrLaws.glued_eq_join]
  induction xs with
  | nil => rfl
  | cons x r ih =>
    cases r with
    | nil => cases x; simp [Str.join, catS]
    | cons y r =>
      show x ++ Str.ofString "" ++ Str.join (Str.ofString "") (y :: r) = _
      rw [ih]
      cases x
      simp only [append_cat, catS, List.flatMap_cons]
      have e0 : (Str.ofString "").cps.toList = [] := rfl
      simp [e0]
theorem join_two (a b : Str) : Txt.join (Str.ofString "") [a, b] = a ++ b := by
  rw [join_cat, append_cat]; simp [catS]
theorem words_A23_3 : True := by
  k_with "newTuple" => ((refine unstop ?_))
  k_with "call builtin:str.join" => ((refine unstop ?_))
  trivial
theorem elt195 (w : World) (mean : ExcName → Option Value) (mg mb : Str → Option Value) (A : Around) (s : Shared) (E : Value → Shared → Prop) (gb : Heap) (C L : Addr) (code : Value) (m : Str → Option Value) (a b : Str) (ta tb : Tok) (rm : Room A 3) (B : Base w mean mg mb gb)
    (F : Fr gb C s.heap m) (h1 : m (Str.ofString "fws") = some (.str a ta)) (h2 : m (Str.ofString "part") = some (.str b tb)) (ha : a.length ≤ 100) (hb : b.length ≤ 100) :
    wpAny (model PySem.Challenge.rw_xo0029_01.row.prog w) A (eval el195 (genEnv sc195 [] C code builtinsNs (en195 L))) (fun y s₃ => (∃ t, y = .str (a ++ b) t) ∧ Keeps s s₃) E s := by
  obtain ⟨hh, dp, fr, gd, un⟩ := A
  obtain ⟨g, gs, dr, tk, os⟩ := s
  obtain rfl : hh = none := rm.hh
  dsimp only at F
  have N0 : News gb C g [] := News.nil
  generalize hQ : (fun (y : Value) (s₃ : Shared) => (∃ t, y = Value.str (a ++ b) t) ∧ Keeps ⟨g, gs, dr, tk, os⟩ s₃) = Q
  k_steps
  unfold Stop
  refine wpAny_newTuple ?_
  k_steps
  unfold Stop
  refine join_tuple (ys := [a, b]) ⟨_, Heap.get?_push_size _ rfl, rfl, _, rfl⟩ (.cons _ _ (.cons _ _ .nil)) (by have e0 : (Str.ofString "").length = 0 := rfl; simp [e0]; omega) fun t' k => ?_
  subst hQ
  rw [join_two]
  exact ⟨⟨_, rfl⟩, ⟨_, _, rfl, fun _ _ e => Heap.get?_push_of_some _ e⟩⟩
end
section -- A24
set_option maxHeartbeats 600000
noncomputable abbrev pos195 : Pos := { line := 106, col := 32, endLine := 106, endCol := 85 }
noncomputable def txtAt (parts : List (Str × Str)) (j : Nat) : Str := match parts[j]? with | some p => p.1 ++ p.2 | none => Str.ofString ""
theorem words_A24_1 : True := by
  k_with_none
  w_top off
  k_with "mn_enter" => ((
  (have Xᵥ := Base.K (by assumption)); (have Tᵥ := Base.T (by assumption)); revert Tᵥ; revert Xᵥ; k_fill; intro _ _
  k_dflt (refine' enter0 ?k1ᵥ ?k2ᵥ ?k3ᵥ ?k4ᵥ ?k5ᵥ ?k6ᵥ ?k7ᵥ ?k8ᵥ ?k9ᵥ ?k10ᵥ ?_; (case k1ᵥ => exact Base.keeps (by assumption) (by assumption)); (case k2ᵥ => exact Room.depth (by assumption)); (case k3ᵥ => k_is); (case k4ᵥ => k_is); (case k5ᵥ => first | exact BindsTo.of_eq rfl | exact binds_K ((Base.K (by assumption)).keeps (by assumption)) rfl (by k_is) rfl rfl rfl | fail "m_enter: no rule for these arguments"); (case k6ᵥ => exact locs rfl); (case k7ᵥ => decide); (case k8ᵥ => exact rfl); (case k9ᵥ => exact rfl); (case k10ᵥ => exact rfl); k_whole; intro _ _ _ _; (try dsimp only); (try k_fold))))
  k_with "wpAt" => ((ks_step "attributeBase Call"; k_here; k_dflt (refine' a_node ?k1ᵥ ?k2ᵥ ?k3ᵥ ?k4ᵥ ?k5ᵥ ?k6ᵥ ?k7ᵥ ?k8ᵥ ?k9ᵥ ?k10ᵥ ?k11ᵥ ?k12ᵥ ?k13ᵥ ?k14ᵥ ?k15ᵥ ?k16ᵥ ?k17ᵥ ?k18ᵥ ?k19ᵥ ?k20ᵥ ?k21ᵥ ?k22ᵥ ?k23ᵥ ?_; (case k1ᵥ => k_asm); (case k2ᵥ => k_in); (case k3ᵥ => k_asm); (case k4ᵥ => exact Base.T (by assumption)); (case k5ᵥ => k_is); (case k6ᵥ => rfl); (case k7ᵥ => rfl); (case k8ᵥ => k_mem); (case k9ᵥ => k_mem); (case k10ᵥ => k_is); (case k11ᵥ => rfl); (case k12ᵥ => first | rfl | decide +kernel); (case k13ᵥ => k_is); (case k14ᵥ => k_is); (case k15ᵥ => k_is); (case k16ᵥ => k_is); (case k17ᵥ => decide); (case k18ᵥ => rfl); (case k19ᵥ => rfl); (case k20ᵥ => rfl); (case k21ᵥ => rfl); (case k22ᵥ => decide +kernel); (case k23ᵥ => first | boot_by_name | rfl | kernel_rfl); intro _ _ _ _ l1ᵥ; (try k_lt l1ᵥ)))); (try (revert l1ᵥ; intro _))
  k_with "getMethod ref" => ((k_here; k_dflt (refine' sup_methodN ?k1ᵥ ?k2ᵥ ?k3ᵥ ?k4ᵥ ?k5ᵥ ?k6ᵥ ?k7ᵥ ?k8ᵥ ?k9ᵥ ?k10ᵥ ?k11ᵥ ?k12ᵥ ?k13ᵥ ?k14ᵥ ?k15ᵥ ?_; (case k1ᵥ => k_asm); (case k2ᵥ => k_in); (case k3ᵥ => k_asm); (case k4ᵥ => k_mem); (case k5ᵥ => k_mem); (case k6ᵥ => k_is); (case k7ᵥ => ks_is); (case k8ᵥ => decide); (case k9ᵥ => exact slot_wd_get); (case k10ᵥ => exact type_llen); (case k11ᵥ => exact entry_wd_get); (case k12ᵥ => exact args_wd_get); (case k13ᵥ => exact fun a b => wd_get a b (.inl ⟨rfl, rfl⟩)); (case k14ᵥ => exact rfl); (case k15ᵥ => kernel_rfl); intro _ _ _ _ l1ᵥ; (try k_lt l1ᵥ)))); (try (revert l1ᵥ; intro _))
  k_with "getMethod ref" => ((k_here; k_dflt (refine' sup_methodN ?k1ᵥ ?k2ᵥ ?k3ᵥ ?k4ᵥ ?k5ᵥ ?k6ᵥ ?k7ᵥ ?k8ᵥ ?k9ᵥ ?k10ᵥ ?k11ᵥ ?k12ᵥ ?k13ᵥ ?k14ᵥ ?k15ᵥ ?_; (case k1ᵥ => k_asm); (case k2ᵥ => k_in); (case k3ᵥ => k_asm); (case k4ᵥ => k_mem); (case k5ᵥ => k_mem); (case k6ᵥ => k_is); (case k7ᵥ => ks_is); (case k8ᵥ => decide); (case k9ᵥ => exact slot_wd_get); (case k10ᵥ => exact type_linit); (case k11ᵥ => exact entry_wd_get); (case k12ᵥ => exact args_wd_get); (case k13ᵥ => exact fun a b => wd_get a b (.inr ⟨rfl, rfl⟩)); (case k14ᵥ => exact rfl); (case k15ᵥ => kernel_rfl); intro _ _ _ _ l1ᵥ; (try k_lt l1ᵥ)))); (try (revert l1ᵥ; intro _))
  k_with "getMethod ref" => ((k_here; k_dflt (refine' sup_methodN ?k1ᵥ ?k2ᵥ ?k3ᵥ ?k4ᵥ ?k5ᵥ ?k6ᵥ ?k7ᵥ ?k8ᵥ ?k9ᵥ ?k10ᵥ ?k11ᵥ ?k12ᵥ ?k13ᵥ ?k14ᵥ ?k15ᵥ ?_; (case k1ᵥ => k_asm); (case k2ᵥ => k_in); (case k3ᵥ => k_asm); (case k4ᵥ => k_mem); (case k5ᵥ => k_mem); (case k6ᵥ => k_is); (case k7ᵥ => ks_is); (case k8ᵥ => decide); (case k9ᵥ => exact slot_md_get); (case k10ᵥ => exact type_pop); (case k11ᵥ => exact entry_md_get); (case k12ᵥ => exact args_md_get); (case k13ᵥ => exact fun a b => md_get a b); (case k14ᵥ => exact rfl); (case k15ᵥ => kernel_rfl); intro _ _ _ _ l1ᵥ; (try k_lt l1ᵥ)))); (try (revert l1ᵥ; intro _))
  k_with "callWith ref" => ((k_here; k_dflt (refine' callWith_bnd ?k1ᵥ ?k2ᵥ ?k3ᵥ ?_; (case k1ᵥ => k_asm); (case k2ᵥ => k_mem); (case k3ᵥ => first | exact .inl rfl | exact .inr rfl))))
  k_with "getMethod ref" => ((k_here; k_dflt (refine' a_methodN ?k1ᵥ ?k2ᵥ ?k3ᵥ ?k4ᵥ ?k5ᵥ ?k6ᵥ ?k7ᵥ ?k8ᵥ ?k9ᵥ ?_; (case k1ᵥ => k_asm); (case k2ᵥ => k_in); (case k3ᵥ => k_asm); (case k4ᵥ => k_mem); (case k5ᵥ => k_mem); (case k6ᵥ => k_is); (case k7ᵥ => k_is); (case k8ᵥ => first | exact .inl rfl | exact .inr rfl); (case k9ᵥ => exact rfl))))
  k_with "getAttr ref" => ((refine' a_getN ?k1ᵥ ?k2ᵥ ?k3ᵥ ?k4ᵥ ?k5ᵥ ?_; (case k1ᵥ => k_asm); (case k2ᵥ => k_in); (case k3ᵥ => k_asm); (case k4ᵥ => k_mem); (case k5ᵥ => k_mem)))
  k_with "call ref" => ((refine unstop ?_))
  k_with "eval GeneratorExp" => ((refine unstop ?_))
  k_with "call builtin:str.join" => ((refine unstop ?_))
  trivial
theorem sum16 : ∀ l : List Str, (∀ y ∈ l, y.length ≤ 16) → (l.map (·.length)).sum ≤ 16 * l.length
  | [], _ => by simp
  | y :: l, h => by
    have h1 := h y (.head _)
    have h2 := sum16 l fun z hz => h z (.tail _ hz)
    simp only [List.map_cons, List.sum_cons, List.length_cons]
    omega
theorem txts_eq (parts : List (Str × Str)) : (List.range parts.length).map (txtAt parts) = parts.map fun p => p.1 ++ p.2 := by
  refine List.ext_getElem (by simp) fun j h1 h2 => ?_
  simp only [List.length_map, List.length_range] at h1
  simp [txtAt, h1]
theorem fn_astr (w : World) (mean : ExcName → Option Value) (mg mb : Str → Option Value) (x dx : Addr) (T : List Addr) (hT : 190 ∈ T) (vs : List Value) (n : Int) (parts : List (Str × Str)) (hz : vs.length ≤ 20) (hsz : ∀ p ∈ parts, p.1.length ≤ 8 ∧ p.2.length ≤ 8) :
   FnA os₀ w mean mg mb 10 195 [.ref x] T (fun more => AccIn more x dx vs n parts ∧ ∃ ps, (190, tabObj ps) ∈ more ∧ OneCode pos195 ps) (fun v _ more' => ∃ t ps', v = .str (catS (parts.map fun p => p.1 ++ p.2)) t ∧ AccIn more' x dx vs n parts ∧ (190, tabObj ps') ∈ more' ∧ OneCode pos195 ps') := by
  refine FnA.intro fun dp fr gd un g gs dr tk os Q E gb more rm B hk hzz ha hbr tch Pᵢ ret => ?_
  have I := Pᵢ.1
  obtain ⟨ps, hps, hone⟩ := Pᵢ.2
  clear Pᵢ
  have B2 := B.keeps (gAt_base hk ha)
  have k2 : Grows (gAt g more) g := gAt_grows
  have a2 := gAt_above ha
  have z2 : (gAt g more).objs.size ≤ g.objs.size := Nat.le_of_eq (hideAll_size _ _)
  have gk := gAt_base hk ha
  clear B hk
  walk_at "mn_enter"
  rename_i Lx hx0 F0 N0
  have N1 := News.lower F0 N0 k2 a2
  have F1 := Fr.lower F0 k2 z2
  rw [List.nil_append] at N1
  have F2 := (show Fr (gAt g more) _ _ (fun y => List.lookup y [(Str.ofString "self", Value.ref x)]) from F1)
  obtain ⟨ep, hob⟩ := I.ob
  obtain ⟨hs, tk1, t1, k1, hdc⟩ := I.dc
  have N2 := dupN (dupN N1 hdc) (.tail _ hob)
  clear N1 F1 F0 N0
  k_steps
  unfold Stop
  (rename Fr _ _ _ _ => F3); (rename News _ _ _ _ => N3)
  obtain ⟨Ts, u, u', hTs⟩ := I.fn
  have X2 := Base.K B2
  have h195 : CodeHd hx0 194 190 := codeHd_of (X2.keeps F3.keep) (by kernel_rfl)
  refine gen_pairs (x := x) (dx := dx) (vs := vs) (ep := ep) (c := 194) (P := 190) (ps := ps) (Ts := Ts) (vals := valsOf parts u u') (Fv := fun j v => ∃ t, v = .str (txtAt parts j) t) B2 F3 rfl rfl h195 (N3 _ (.tail _ (.tail _ hps))).1 hone (N3 _ (.tail _ (.tail _ hps))).2.2 (N3 _ (.head _)).1 ?_ ?_ ?_ rfl rfl ?_ (by decide) (by rfl) (by rfl) (by rfl) (by decide) rfl (Room.deeper (d := 9) rm).depth ?_ ?_ ?_ ?_
  · intro j hj
    rw [I.ln] at hj
    exact (hTs j _ (List.getElem?_eq_getElem hj)).1
  · intro j hj
    rw [I.ln] at hj
    have e := List.getElem?_eq_getElem hj
    unfold valsOf
    rw [e]
    exact ⟨_, (N3 _ (.tail _ (.tail _ (hTs j _ e).2))).1, rfl, _, rfl⟩
  · intro j hj
    rw [I.ln] at hj
    have e := List.getElem?_eq_getElem hj
    unfold valsOf
    rw [e]
    exact ⟨_, _, rfl⟩
  · rfl
  · k_steps
  · intro y; rfl
  · intro C code A' E' i va vb t' m₂ hA hD hU hi hv Fx ma9 mb9
    rw [I.ln] at hi
    have e := List.getElem?_eq_getElem hi
    unfold valsOf at hv
    rw [e] at hv
    dsimp only at hv
    have e1 : va = .str parts[i].1 (u i) := by have := congrArg (fun a : Array Value => a[0]?) hv; simpa using this.symm
    have e2 : vb = .str parts[i].2 (u' i) := by have := congrArg (fun a : Array Value => a[1]?) hv; simpa using this.symm
    subst e1 e2
    have hd0 := rm.hd
    have hu0 := rm.hu
    have hD' : A'.depth ≤ dp + 1 + 1 := hD
    have hU' : A'.units ≤ un + 3 + 8 := hU
    have hpm := hsz _ (List.getElem_mem hi)
    dsimp only at hd0 hu0
    refine wpAny_mono (elt195 w mean mg mb A' t' E' (gAt g more) C Lx code m₂ _ _ _ _ ⟨hA, by omega, by omega⟩ B2 Fx ma9 mb9 (by omega) (by omega)) (fun y s₃ h => ⟨?_, h.2⟩) fun _ _ x => x
    unfold txtAt
    rw [e]
    exact h.1
  · intro c' a s₅ hx5 hp5 hb5 ho5 hd5 hg5
    replace hx5 : Heap.ExtBut 190 hx0 s₅.heap := hx5
    have hP3 := (N3 _ (.tail _ (.tail _ hps))).1
    have F5 : Fr (gAt g more) Lx s₅.heap _ := fr_ext F3 hP3 (N3 _ (.tail _ (.tail _ hps))).2.2 hx5
    have ne : ∀ {b : Addr} {o : Obj}, (b, o) ∈ more → o ≠ tabObj ps → b ≠ 190 := fun hb hc q => by
      subst q
      have e1 := (ha _ hb).1
      rw [(ha _ hps).1] at e1
      exact hc (Option.some.inj e1).symm
    have N5 : News (gAt g more) Lx s₅.heap [(x, acc dx vs ep), (dx, dictOf (iniE hs tk1 n t1) k1)] := fun p hp => by
      rcases List.mem_cons.mp hp with rfl | hp
      · exact ⟨hx5 _ _ (ne hob (fun q => by cases q)) (N3 _ (.head _)).1, (N3 _ (.head _)).2⟩
      · rcases List.mem_cons.mp hp with rfl | hp
        · exact ⟨hx5 _ _ (ne hdc (fun q => by cases q)) (N3 _ (.tail _ (.head _))).1, (N3 _ (.tail _ (.head _))).2⟩
        · cases hp
    have hg6 := hg5 (hx0.objs.size - 1)
    have kg5 : ∀ b o, b ≠ 190 → g.get? b = some o → s₅.heap.get? b = some o ∧ b ≤ hx0.objs.size - 1 := fun b o hb e => by
      have e0 : hx0.get? b = some o := by
        by_cases hm : b ∈ more.map (·.1)
        · obtain ⟨q, hq, rfl⟩ := List.mem_map.mp hm
          have h1 := (N3 q (.tail _ (.tail _ hq))).1
          rw [(ha q hq).1] at e
          rw [h1, Option.some.inj e]
        · exact F3.keep _ _ (hideAll_get _ e hm)
      exact ⟨hx5 _ _ hb e0, Nat.le_sub_one_of_lt (Heap.lt_size e0)⟩
    have l190 : 190 ≤ hx0.objs.size - 1 := Nat.le_sub_one_of_lt (Heap.lt_size hP3)
    have hg7 := hg6 (Nat.sub_lt (Nat.lt_of_le_of_lt (Nat.zero_le _) (Heap.lt_size hP3)) (by decide))
    have hLx : Lx ≤ hx0.objs.size - 1 := Nat.le_sub_one_of_lt F3.ns.lt
    clear hx5 N3 F3
    k_steps
    unfold Stop
    refine join_rowsK F5 (hb5 hbr.1) hg7 hLx (txtAt parts) (fun j v h => h) ?_ (fun s' t' _ gb' ob' kp => ?_) ?_
    · refine joinOk_of_weight ?_ (by decide)
      have := sum16 ((List.range vs.length).map (txtAt parts)) fun y hy => by
        obtain ⟨j, hj, rfl⟩ := List.mem_map.mp hy
        rw [List.mem_range, I.ln] at hj
        have hp := hsz _ (List.getElem_mem hj)
        unfold txtAt
        rw [List.getElem?_eq_getElem hj]
        show (_ ++ _ : Str).length ≤ 16
        rw [Str.length_append]
        omega
      rw [List.length_map, List.length_range] at this
      rw [List.length_map, List.length_range]
      omega
    · show Q _ s'
      rw [I.ln, join_cat, txts_eq]
      have m190 : (190, tabObj #[rawInt pos195.line, rawInt pos195.col, .ref c']) ∈ swapAt more 190 (tabObj #[rawInt pos195.line, rawInt pos195.col, .ref c']) := swapAt_mem hps
      refine ret _ s' (swapAt more 190 (tabObj #[rawInt pos195.line, rawInt pos195.col, .ref c'])) ⟨fun b o hb e => ?_, fun q hq => ?_, fun q hq => ?_, tch⟩ ⟨gb', ob'.trans (ho5.trans hbr.2)⟩ ⟨_, _, rfl, ⟨⟨ep, swapAt_ne hob (ne hob (fun q => by cases q))⟩, ⟨hs, tk1, t1, k1, swapAt_ne hdc (ne hdc (fun q => by cases q))⟩, I.ln, fun j p e => ?_⟩, m190, .inr ⟨c', rfl⟩⟩
      · obtain ⟨e1, e2⟩ := kg5 b o (fun q => hb (q ▸ hT)) e
        exact kp _ _ e2 e1
      · obtain ⟨r, hr, e⟩ := List.mem_map.mp hq
        by_cases hx' : r.1 = 190
        · rw [if_pos hx'] at e; subst e
          exact ⟨kp _ _ l190 hp5, (ha _ hps).2⟩
        · rw [if_neg hx'] at e; subst e
          obtain ⟨e1, e2⟩ := kg5 _ _ hx' (ha _ hr).1
          exact ⟨kp _ _ e2 e1, (ha _ hr).2⟩
      · obtain ⟨r, hr, e⟩ := List.mem_map.mp hq
        by_cases hx' : r.1 = 190
        · rw [if_pos hx'] at e; subst e; exact .inr ⟨_, hps⟩
        · rw [if_neg hx'] at e; subst e; exact .inr ⟨_, hr⟩
      · obtain ⟨Tj, a1, b1, h1, h2⟩ := I.tp j p e
        exact ⟨Tj, a1, b1, h1, swapAt_ne h2 (ne h2 (fun q => by cases q))⟩
    · have hsz : (1000000 : Nat) ≤ sizeLine := Nat.le_of_ble_eq_true (by decide +kernel)
      omega
end
section -- A25
set_option maxHeartbeats 400000
/-- the ledger of a call, with all that it leaves alone -/
noncomputable def restOf (T : List Addr) (more : List (Addr × Obj)) : List (Addr × Obj) := more.filter fun q => decide (q.1 ∉ T)
theorem mem_rest {T : List Addr} {more : List (Addr × Obj)} {q : Addr × Obj} (h : q ∈ more) (hT : q.1 ∉ T) : q ∈ restOf T more := List.mem_filter.mpr ⟨h, decide_eq_true hT⟩
theorem of_rest {T : List Addr} {more : List (Addr × Obj)} {q : Addr × Obj} (h : q ∈ restOf T more) : q ∈ more ∧ q.1 ∉ T := by
  obtain ⟨a, b⟩ := List.mem_filter.mp h
  exact ⟨a, of_decide_eq_true b⟩
theorem Went.full {gb h h' : Heap} {T : List Addr} {more more' : List (Addr × Obj)} (a : Above gb h more) (W : Went gb h h' T more more') : Went gb h h' T more (restOf T more ++ more') where
  kept := W.kept
  abv := fun q hq => by
    rcases List.mem_append.mp hq with hq | hq
    · obtain ⟨h1, h2⟩ := of_rest hq
      exact ⟨W.kept _ _ h2 (a _ h1).1, (a _ h1).2⟩
    · exact W.abv q hq
  src := fun q hq => by
    rcases List.mem_append.mp hq with hq | hq
    · exact .inr ⟨_, (of_rest hq).1⟩
    · exact W.src q hq
  tch := W.tch
/-- a method has come to its end -/
theorem Went.fin {gb g h : Heap} {L : Addr} {m : Str → Option Value} {T : List Addr} {more m' news : List (Addr × Obj)} (ha : Above gb g more) (gk : Grows gb (gAt g more)) (F : Fr (gAt g more) L h m) (N : News (gAt g more) L h news) (hs : ∀ q ∈ m', q ∈ news)
    (kp : ∀ q ∈ more, q.1 ∉ T → q ∈ news) (tch : ∀ a ∈ T, ∃ o, (a, o) ∈ more) : Went gb g h T more m' where
  kept := gAt_kept ha (fun q hq hT => (N q (kp q hq hT)).1) fun b o _ e => F.keep b o e
  abv := fun q hq => by
    refine ⟨(N q (hs q hq)).1, ?_⟩
    cases e : gb.get? q.1 with
    | none => rfl
    | some o =>
      have := (N q (hs q hq)).2.2
      rw [gk _ _ e] at this; cases this
  src := fun q hq => by
    by_cases hm : q.1 ∈ more.map (·.1)
    · obtain ⟨r, hr, e⟩ := List.mem_map.mp hm
      exact .inr ⟨r.2, by rw [← e]; exact hr⟩
    · refine .inl (gAt_fresh (N q (hs q hq)).2.2 fun p hp e => hm (List.mem_map.mpr ⟨p, hp, e⟩))
  tch := tch
section
variable {w : World} {mean : ExcName → Option Value} {mg mb : Str → Option Value} {A : Around} {s : Shared} {Q E : Value → Shared → Prop} {h₀ gb h h' : Heap} {L x dx : Addr} {m : Str → Option Value} {pre news more more' : List (Addr × Obj)} {d : Nat} {f : Addr} {args : List Value} {T : List Addr} {Pre : List (Addr × Obj) → Prop} {Post : Value → List (Addr × Obj) → List (Addr × Obj) → Prop}
/-- a method is called; the new ledger holds all that the call left alone -/
theorem callA2 (hf : FnA os₀ w mean mg mb d f args T Pre Post) (r : Room A d) (B : Base w mean mg mb h₀) (F : Fr h₀ L s.heap m) (N : News h₀ L s.heap news) (pre more : List (Addr × Obj)) (hpre : ∀ p ∈ pre, p ∈ news) (hmore : ∀ p ∈ more, p ∈ news) (hp : ∀ p ∈ pre, p.1 ∉ T) (hbr : Still os₀ s) (tch : ∀ a ∈ T, ∃ o, (a, o) ∈ more) (pr : Pre more)
    (h : ∀ v s' more' m', Post v more more' → (∀ q ∈ more, q.1 ∉ T → q ∈ m') → (∀ q ∈ more', q ∈ m') → Fr h₀ L s'.heap m → News h₀ L s'.heap (pre ++ m') → Still os₀ s' → Q v s') : wpAny (model PySem.Challenge.rw_xo0029_01.row.prog w) A (call (.ref f) args) Q E s :=
  hf A s Q E h₀ more r B F.keep (Nat.le_of_lt (Nat.lt_of_le_of_lt F.above F.ns.lt)) (fun p hp => ⟨(N p (hmore p hp)).1, (N p (hmore p hp)).2.2⟩) hbr tch pr fun v s' more' W G P =>
    have W' := W.full (fun p hp => ⟨(N p (hmore p hp)).1, (N p (hmore p hp)).2.2⟩)
    h v s' more' (restOf T more ++ more') P (fun q hq hT => List.mem_append_left _ (mem_rest hq hT)) (fun q hq => List.mem_append_right _ hq)
      (W'.fr F (News.fewer N hmore)) (W'.news2 F (News.fewer N fun p hp => by rcases List.mem_append.mp hp with h | h; exact hpre p h; exact hmore p h) hp) G
end
section
variable {prog : Program} {w : World} {A : Around} {E : Value → Shared → Prop} {s : Shared} {K : Frag} {x C L f : Addr} {h₀ : Heap} {m : Str → Option Value} {ox : Obj} {od : Option Obj}
theorem a_truthy {Q : Bool → Shared → Prop} (F : Fr h₀ L s.heap m) (X₀ : K.In h₀) (I : InstAt s.heap x ox C od) (hb : findIn K (.ref C) "__bool__" = some none) (hs : findIn K (.ref C) "__len__" = some (some (.ref f))) (hf : isFn K (.ref f) = true)
    (h : wpAny (model prog w) A.in1 (call (.ref f) [.ref x]) (fun v s' => ∃ n t, v = .int n t ∧ (0 ≤ n ∧ n < 2 ^ 63) ∧ Q (n != 0) { s' with toks := s'.toks + 1 }) E s) : wpAny (model prog w) A (truthy (.ref x)) Q E s := by
  have X := X₀.keeps F.keep
  unfold truthy
  refine wpAny_bind (m := callSpecial? (.ref x) (Str.ofString "__bool__")) (wpAny_bind (wpAny_bind (I.type.here ((looks_findIn X hb).here (wpAny_pure ?_)))))
  dsimp only
  refine wpAny_bind (wpAny_bind (I.type.here ((looks_findIn X hs).here ?_)))
  show wpAny _ _ (if (some (Value.ref f)).isNone = true then _ else _) _ _ _
  rw [if_neg (by simp)]
  refine wpAny_bind (wpAny_runValue (codeAny_builtin entry_len ?_))
  rw [Around.under_plainId plain_len _]
  unfold Builtin.«len»
  refine wpAny_bind (m := oneArg "len" _) (wpAny_pure ?_)
  refine wpAny_bind (m := callSpecial? (.ref x) (Str.ofString "__len__")) (special_fn X I hs (beq_iff_eq.mp hf) (wpAny_mono h (fun r s' hr => ?_) fun _ _ y => y))
  obtain ⟨n, u, rfl, ⟨h0, h1⟩, hq⟩ := hr
  refine wpAny_bind (wpAny_holding (wpAny_pure ?_))
  refine wpAny_bind (wpAny_letGo ?_)
  show wpAny _ _ (if n < 0 then _ else _) _ _ _
  rw [if_neg (by omega)]
  show wpAny _ _ (if n ≥ 2 ^ 63 then _ else _) _ _ _
  rw [if_neg (by omega)]
  exact wpAny_bind (wpAny_mkInt (wpAny_pure (wpAny_pure hq)))
end
end
section -- A26
set_option maxHeartbeats 300000
theorem words_A26_1 : True := by
  k_with_none
  w_top off
  k_with "mn_enter" => ((
  (have Xᵥ := Base.K (by assumption)); (have Tᵥ := Base.T (by assumption)); revert Tᵥ; revert Xᵥ; k_fill; intro _ _
  k_dflt (refine' enter0 ?k1ᵥ ?k2ᵥ ?k3ᵥ ?k4ᵥ ?k5ᵥ ?k6ᵥ ?k7ᵥ ?k8ᵥ ?k9ᵥ ?k10ᵥ ?_; (case k1ᵥ => exact Base.keeps (by assumption) (by assumption)); (case k2ᵥ => exact Room.depth (by assumption)); (case k3ᵥ => k_is); (case k4ᵥ => k_is); (case k5ᵥ => first | exact BindsTo.of_eq rfl | exact binds_K ((Base.K (by assumption)).keeps (by assumption)) rfl (by k_is) rfl rfl rfl | fail "m_enter: no rule for these arguments"); (case k6ᵥ => exact locs rfl); (case k7ᵥ => decide); (case k8ᵥ => exact rfl); (case k9ᵥ => exact rfl); (case k10ᵥ => exact rfl); k_whole; intro _ _ _ _; (try dsimp only); (try k_fold))))
  k_with "wpAt" => ((ks_step "attributeBase Call"; k_here; k_dflt (refine' a_node ?k1ᵥ ?k2ᵥ ?k3ᵥ ?k4ᵥ ?k5ᵥ ?k6ᵥ ?k7ᵥ ?k8ᵥ ?k9ᵥ ?k10ᵥ ?k11ᵥ ?k12ᵥ ?k13ᵥ ?k14ᵥ ?k15ᵥ ?k16ᵥ ?k17ᵥ ?k18ᵥ ?k19ᵥ ?k20ᵥ ?k21ᵥ ?k22ᵥ ?k23ᵥ ?_; (case k1ᵥ => k_asm); (case k2ᵥ => k_in); (case k3ᵥ => k_asm); (case k4ᵥ => exact Base.T (by assumption)); (case k5ᵥ => k_is); (case k6ᵥ => rfl); (case k7ᵥ => rfl); (case k8ᵥ => k_mem); (case k9ᵥ => k_mem); (case k10ᵥ => k_is); (case k11ᵥ => rfl); (case k12ᵥ => first | rfl | decide +kernel); (case k13ᵥ => k_is); (case k14ᵥ => k_is); (case k15ᵥ => k_is); (case k16ᵥ => k_is); (case k17ᵥ => decide); (case k18ᵥ => rfl); (case k19ᵥ => rfl); (case k20ᵥ => rfl); (case k21ᵥ => rfl); (case k22ᵥ => decide +kernel); (case k23ᵥ => first | boot_by_name | rfl | kernel_rfl); intro _ _ _ _ l1ᵥ; (try k_lt l1ᵥ)))); (try (revert l1ᵥ; intro _))
  k_with "getMethod ref" => ((k_here; k_dflt (refine' sup_methodN ?k1ᵥ ?k2ᵥ ?k3ᵥ ?k4ᵥ ?k5ᵥ ?k6ᵥ ?k7ᵥ ?k8ᵥ ?k9ᵥ ?k10ᵥ ?k11ᵥ ?k12ᵥ ?k13ᵥ ?k14ᵥ ?k15ᵥ ?_; (case k1ᵥ => k_asm); (case k2ᵥ => k_in); (case k3ᵥ => k_asm); (case k4ᵥ => k_mem); (case k5ᵥ => k_mem); (case k6ᵥ => k_is); (case k7ᵥ => ks_is); (case k8ᵥ => decide); (case k9ᵥ => exact slot_wd_get); (case k10ᵥ => exact type_llen); (case k11ᵥ => exact entry_wd_get); (case k12ᵥ => exact args_wd_get); (case k13ᵥ => exact fun a b => wd_get a b (.inl ⟨rfl, rfl⟩)); (case k14ᵥ => exact rfl); (case k15ᵥ => kernel_rfl); intro _ _ _ _ l1ᵥ; (try k_lt l1ᵥ)))); (try (revert l1ᵥ; intro _))
  k_with "getMethod ref" => ((k_here; k_dflt (refine' sup_methodN ?k1ᵥ ?k2ᵥ ?k3ᵥ ?k4ᵥ ?k5ᵥ ?k6ᵥ ?k7ᵥ ?k8ᵥ ?k9ᵥ ?k10ᵥ ?k11ᵥ ?k12ᵥ ?k13ᵥ ?k14ᵥ ?k15ᵥ ?_; (case k1ᵥ => k_asm); (case k2ᵥ => k_in); (case k3ᵥ => k_asm); (case k4ᵥ => k_mem); (case k5ᵥ => k_mem); (case k6ᵥ => k_is); (case k7ᵥ => ks_is); (case k8ᵥ => decide); (case k9ᵥ => exact slot_wd_get); (case k10ᵥ => exact type_linit); (case k11ᵥ => exact entry_wd_get); (case k12ᵥ => exact args_wd_get); (case k13ᵥ => exact fun a b => wd_get a b (.inr ⟨rfl, rfl⟩)); (case k14ᵥ => exact rfl); (case k15ᵥ => kernel_rfl); intro _ _ _ _ l1ᵥ; (try k_lt l1ᵥ)))); (try (revert l1ᵥ; intro _))
  k_with "getMethod ref" => ((k_here; k_dflt (refine' sup_methodN ?k1ᵥ ?k2ᵥ ?k3ᵥ ?k4ᵥ ?k5ᵥ ?k6ᵥ ?k7ᵥ ?k8ᵥ ?k9ᵥ ?k10ᵥ ?k11ᵥ ?k12ᵥ ?k13ᵥ ?k14ᵥ ?k15ᵥ ?_; (case k1ᵥ => k_asm); (case k2ᵥ => k_in); (case k3ᵥ => k_asm); (case k4ᵥ => k_mem); (case k5ᵥ => k_mem); (case k6ᵥ => k_is); (case k7ᵥ => ks_is); (case k8ᵥ => decide); (case k9ᵥ => exact slot_md_get); (case k10ᵥ => exact type_pop); (case k11ᵥ => exact entry_md_get); (case k12ᵥ => exact args_md_get); (case k13ᵥ => exact fun a b => md_get a b); (case k14ᵥ => exact rfl); (case k15ᵥ => kernel_rfl); intro _ _ _ _ l1ᵥ; (try k_lt l1ᵥ)))); (try (revert l1ᵥ; intro _))
  k_with "callWith ref" => ((k_here; k_dflt (refine' callWith_bnd ?k1ᵥ ?k2ᵥ ?k3ᵥ ?_; (case k1ᵥ => k_asm); (case k2ᵥ => k_mem); (case k3ᵥ => first | exact .inl rfl | exact .inr rfl))))
  k_with "getMethod ref" => ((k_here; k_dflt (refine' a_methodN ?k1ᵥ ?k2ᵥ ?k3ᵥ ?k4ᵥ ?k5ᵥ ?k6ᵥ ?k7ᵥ ?k8ᵥ ?k9ᵥ ?_; (case k1ᵥ => k_asm); (case k2ᵥ => k_in); (case k3ᵥ => k_asm); (case k4ᵥ => k_mem); (case k5ᵥ => k_mem); (case k6ᵥ => k_is); (case k7ᵥ => k_is); (case k8ᵥ => first | exact .inl rfl | exact .inr rfl); (case k9ᵥ => exact rfl))))
  k_with "getAttr ref" => ((refine' a_getN ?k1ᵥ ?k2ᵥ ?k3ᵥ ?k4ᵥ ?k5ᵥ ?_; (case k1ᵥ => k_asm); (case k2ᵥ => k_in); (case k3ᵥ => k_asm); (case k4ᵥ => k_mem); (case k5ᵥ => k_mem)))
  k_with "call ref" => ((refine unstop ?_))
  trivial
theorem Room.uLt {A : Around} {d : Nat} (r : Room A d) : A.units < cLine := Nat.lt_of_le_of_lt (Nat.le_add_right _ _) r.hu
noncomputable def Tabs (more : List (Addr × Obj)) : Prop := (∃ ps, (183, tabObj ps) ∈ more ∧ OneCode pos188 ps) ∧ (∃ ps, (190, tabObj ps) ∈ more ∧ OneCode pos195 ps)
theorem words_A26_2 : True := by
  k_with "truthy ref" => ((refine unstop ?_))
  k_with "call type:str" => ((refine unstop ?_))
  trivial
theorem fn_ows (w : World) (mean : ExcName → Option Value) (mg mb : Str → Option Value) (x dx : Addr) (T : List Addr) (hT : 183 ∈ T) (hT2 : 190 ∈ T) (vs : List Value) (parts : List (Str × Str)) (hz : vs.length ≤ 20) (hsz : ∀ p ∈ parts, p.1.length ≤ 8 ∧ p.2.length ≤ 8) (hpos : 0 < preFrom 0 (lenAt parts) parts.length) (hsp : Txt.isspace (catS (parts.map fun p => p.1 ++ p.2)) = false) :
   FnA os₀ w mean mg mb 14 210 [.ref x] T (fun more => AccIn more x dx vs 0 parts ∧ Tabs more) (fun v _ more' => v = .bool false ∧ AccIn more' x dx vs 0 parts ∧ Tabs more') := by
  refine FnA.intro fun dp fr gd un g gs dr tk os Q E gb more rm B hk hzz ha hbr tch Pᵢ ret => ?_
  have I := Pᵢ.1
  have tb := Pᵢ.2
  clear Pᵢ
  have B2 := B.keeps (gAt_base hk ha)
  have k2 : Grows (gAt g more) g := gAt_grows
  have a2 := gAt_above ha
  have z2 : (gAt g more).objs.size ≤ g.objs.size := Nat.le_of_eq (hideAll_size _ _)
  have gk := gAt_base hk ha
  clear B hk
  walk_at "mn_enter"
  rename_i Lx hx0 F0 N0
  have N1 := News.lower F0 N0 k2 a2
  have F1 := Fr.lower F0 k2 z2
  rw [List.nil_append] at N1
  have F2 := (show Fr (gAt g more) _ _ (fun y => List.lookup y [(Str.ofString "self", Value.ref x)]) from F1)
  obtain ⟨ep, hob⟩ := I.ob
  obtain ⟨hs, tk1, t1, k1, hdc⟩ := I.dc
  have N2 := dupN (dupN N1 hdc) (.tail _ hob)
  clear N1 F1 F0 N0
  k_steps
  unfold Stop
  (rename Fr _ _ _ _ => F3); (rename News _ _ _ _ => N3)
  have X2 := Base.K B2
  have hv16 : ∀ j : Nat, 0 ≤ lenAt parts j ∧ lenAt parts j ≤ 16 := fun j => by
    unfold lenAt
    cases e : parts[j]? with
    | none => simp
    | some p =>
      have := hsz p (List.mem_of_getElem? e)
      dsimp only; omega
  have hln := I.ln
  have hle := (preFrom_le (st := 0) hv16 parts.length).2
  refine a_truthy (f := 188) F3 X2 (InstAt.acc (N3 _ (.head _)).1 (N3 _ (.tail _ (.head _))).1) (by kernel_rfl) (by kernel_rfl) (by kernel_rfl) ?_
  refine callA2 (fn_alen w mean mg mb x dx [183] (by simp) vs 0 parts hz (by omega) hsz) (Room.in1 (Room.less (Room.deeper (d := 13) rm) (by decide : 9 ≤ 13))) B2 F3 N3 [] more (by simp) (fun q hq => .tail _ (.tail _ hq)) (by simp) hbr (fun a ha => by
    obtain ⟨ps, h, _⟩ := tb.1
    rw [List.mem_singleton.mp ha]; exact ⟨_, h⟩) ⟨I, tb.1⟩ fun v s' more' m' P hk4 hm4 F4 N4 hb4 => ?_
  obtain ⟨tv, ps4, rfl, I4, h4, o4⟩ := P
  refine ⟨_, _, rfl, ⟨by omega, by omega⟩, ?_⟩
  rw [show (preFrom 0 (lenAt parts) parts.length != 0) = true by simp; omega]
  replace I4 := I4.incl hm4
  have tb4 : Tabs m' := ⟨⟨_, hm4 _ h4, o4⟩, by obtain ⟨ps, h, o⟩ := tb.2; exact ⟨ps, hk4 _ h (by simp), o⟩⟩
  have kp4 : ∀ q ∈ more, q.1 ∉ [183, 190] → q ∈ m' := fun q hq hn => hk4 q hq (by simp at hn; simp [hn.1])
  obtain ⟨ep5, hob5⟩ := I4.ob
  obtain ⟨hs5, tk5, t5, k5, hdc5⟩ := I4.dc
  rw [List.nil_append] at N4
  have N5 := dupN (dupN N4 hdc5) (.tail _ hob5)
  obtain ⟨h5, gs5, dr5, tk5, os5⟩ := s'
  dsimp only at F4 N4 N5 hb4
  clear F3 N3 N4
  k_steps
  unfold Stop
  (rename Fr _ _ _ _ => F6); (rename News _ _ _ _ => N6)
  refine kso_call ?_ (X2.keeps F6.keep) (InstAt.acc (N6 _ (.head _)).1 (N6 _ (.tail _ (.head _))).1) (f := 195) (by kernel_rfl) (by kernel_rfl) ?_
  · exact Room.uLt (d := 11) (Room.in1 (Room.in1 (Room.deeper (d := 13) rm)))
  refine callA2 (fn_astr w mean mg mb x dx [190] (by simp) vs 0 parts hz hsz) (Room.less (Room.in1 (Room.in1 (Room.deeper (d := 13) rm))) (by decide : 10 ≤ 11)) B2 F6 N6 [] m' (by simp) (fun q hq => .tail _ (.tail _ hq)) (by simp) hb4 (fun a ha => by
    obtain ⟨ps, h, _⟩ := tb4.2
    rw [List.mem_singleton.mp ha]; exact ⟨_, h⟩) ⟨I4, tb4.2⟩ fun v s' more' m2 P hk7 hm7 F7 N7 hb7 => ?_
  obtain ⟨tv, ps7, rfl, I7, h7, o7⟩ := P
  replace I7 := I7.incl hm7
  have tb7 : Tabs m2 := ⟨by obtain ⟨ps, h, o⟩ := tb4.1; exact ⟨ps, hk7 _ h (by simp), o⟩, ⟨_, hm7 _ h7, o7⟩⟩
  have kp7 : ∀ q ∈ more, q.1 ∉ [183, 190] → q ∈ m2 := fun q hq hn => hk7 q (kp4 q hq hn) (by simp at hn; simp [hn.2])
  rw [List.nil_append] at N7
  obtain ⟨h8, gs8, dr8, tk8, os8⟩ := s'
  dsimp only at F7 N7 hb7
  show StrBack _ _ _
  unfold StrBack
  dsimp only
  generalize hcat : catS (parts.map fun p => p.1 ++ p.2) = cat
  clear F6 N6
  k_steps
  rw [← hcat, hsp]
  refine ret _ _ m2 (Went.fin ha gk F7 N7 (fun q h => h) (fun q hq hn => kp7 q hq fun h => hn ?_) tch) hb7 ⟨rfl, I7, tb7⟩
  rcases List.mem_cons.mp h with h | h
  · rw [h]; exact hT
  · rw [List.mem_singleton.mp h]; exact hT2
end
section -- A18
set_option maxHeartbeats 300000
section
variable {gb h h' h₀ : Heap} {L x dx b : Addr} {m : Str → Option Value} {news more : List (Addr × Obj)} {o o' : Obj}
theorem words_A18_1 : True := by
  k_with_none
  w_top off
  k_with "mn_enter" => ((
  (have Xᵥ := Base.K (by assumption)); (have Tᵥ := Base.T (by assumption)); revert Tᵥ; revert Xᵥ; k_fill; intro _ _
  k_dflt (refine' enter0 ?k1ᵥ ?k2ᵥ ?k3ᵥ ?k4ᵥ ?k5ᵥ ?k6ᵥ ?k7ᵥ ?k8ᵥ ?k9ᵥ ?k10ᵥ ?_; (case k1ᵥ => exact Base.keeps (by assumption) (by assumption)); (case k2ᵥ => exact Room.depth (by assumption)); (case k3ᵥ => k_is); (case k4ᵥ => k_is); (case k5ᵥ => first | exact BindsTo.of_eq rfl | exact binds_K ((Base.K (by assumption)).keeps (by assumption)) rfl (by k_is) rfl rfl rfl | fail "m_enter: no rule for these arguments"); (case k6ᵥ => exact locs rfl); (case k7ᵥ => decide); (case k8ᵥ => exact rfl); (case k9ᵥ => exact rfl); (case k10ᵥ => exact rfl); k_whole; intro _ _ _ _; (try dsimp only); (try k_fold))))
  k_with "wpAt" => ((ks_step "attributeBase Call"; k_here; k_dflt (refine' a_node ?k1ᵥ ?k2ᵥ ?k3ᵥ ?k4ᵥ ?k5ᵥ ?k6ᵥ ?k7ᵥ ?k8ᵥ ?k9ᵥ ?k10ᵥ ?k11ᵥ ?k12ᵥ ?k13ᵥ ?k14ᵥ ?k15ᵥ ?k16ᵥ ?k17ᵥ ?k18ᵥ ?k19ᵥ ?k20ᵥ ?k21ᵥ ?k22ᵥ ?k23ᵥ ?_; (case k1ᵥ => k_asm); (case k2ᵥ => k_in); (case k3ᵥ => k_asm); (case k4ᵥ => exact Base.T (by assumption)); (case k5ᵥ => k_is); (case k6ᵥ => rfl); (case k7ᵥ => rfl); (case k8ᵥ => k_mem); (case k9ᵥ => k_mem); (case k10ᵥ => k_is); (case k11ᵥ => rfl); (case k12ᵥ => first | rfl | decide +kernel); (case k13ᵥ => k_is); (case k14ᵥ => k_is); (case k15ᵥ => k_is); (case k16ᵥ => k_is); (case k17ᵥ => decide); (case k18ᵥ => rfl); (case k19ᵥ => rfl); (case k20ᵥ => rfl); (case k21ᵥ => rfl); (case k22ᵥ => decide +kernel); (case k23ᵥ => first | boot_by_name | rfl | kernel_rfl); intro _ _ _ _ l1ᵥ; (try k_lt l1ᵥ)))); (try (revert l1ᵥ; intro _))
  k_with "getMethod ref" => ((k_here; k_dflt (refine' sup_methodN ?k1ᵥ ?k2ᵥ ?k3ᵥ ?k4ᵥ ?k5ᵥ ?k6ᵥ ?k7ᵥ ?k8ᵥ ?k9ᵥ ?k10ᵥ ?k11ᵥ ?k12ᵥ ?k13ᵥ ?k14ᵥ ?k15ᵥ ?_; (case k1ᵥ => k_asm); (case k2ᵥ => k_in); (case k3ᵥ => k_asm); (case k4ᵥ => k_mem); (case k5ᵥ => k_mem); (case k6ᵥ => k_is); (case k7ᵥ => ks_is); (case k8ᵥ => decide); (case k9ᵥ => exact slot_wd_get); (case k10ᵥ => exact type_llen); (case k11ᵥ => exact entry_wd_get); (case k12ᵥ => exact args_wd_get); (case k13ᵥ => exact fun a b => wd_get a b (.inl ⟨rfl, rfl⟩)); (case k14ᵥ => exact rfl); (case k15ᵥ => kernel_rfl); intro _ _ _ _ l1ᵥ; (try k_lt l1ᵥ)))); (try (revert l1ᵥ; intro _))
  k_with "getMethod ref" => ((k_here; k_dflt (refine' sup_methodN ?k1ᵥ ?k2ᵥ ?k3ᵥ ?k4ᵥ ?k5ᵥ ?k6ᵥ ?k7ᵥ ?k8ᵥ ?k9ᵥ ?k10ᵥ ?k11ᵥ ?k12ᵥ ?k13ᵥ ?k14ᵥ ?k15ᵥ ?_; (case k1ᵥ => k_asm); (case k2ᵥ => k_in); (case k3ᵥ => k_asm); (case k4ᵥ => k_mem); (case k5ᵥ => k_mem); (case k6ᵥ => k_is); (case k7ᵥ => ks_is); (case k8ᵥ => decide); (case k9ᵥ => exact slot_wd_get); (case k10ᵥ => exact type_linit); (case k11ᵥ => exact entry_wd_get); (case k12ᵥ => exact args_wd_get); (case k13ᵥ => exact fun a b => wd_get a b (.inr ⟨rfl, rfl⟩)); (case k14ᵥ => exact rfl); (case k15ᵥ => kernel_rfl); intro _ _ _ _ l1ᵥ; (try k_lt l1ᵥ)))); (try (revert l1ᵥ; intro _))
  k_with "getMethod ref" => ((k_here; k_dflt (refine' sup_methodN ?k1ᵥ ?k2ᵥ ?k3ᵥ ?k4ᵥ ?k5ᵥ ?k6ᵥ ?k7ᵥ ?k8ᵥ ?k9ᵥ ?k10ᵥ ?k11ᵥ ?k12ᵥ ?k13ᵥ ?k14ᵥ ?k15ᵥ ?_; (case k1ᵥ => k_asm); (case k2ᵥ => k_in); (case k3ᵥ => k_asm); (case k4ᵥ => k_mem); (case k5ᵥ => k_mem); (case k6ᵥ => k_is); (case k7ᵥ => ks_is); (case k8ᵥ => decide); (case k9ᵥ => exact slot_md_get); (case k10ᵥ => exact type_pop); (case k11ᵥ => exact entry_md_get); (case k12ᵥ => exact args_md_get); (case k13ᵥ => exact fun a b => md_get a b); (case k14ᵥ => exact rfl); (case k15ᵥ => kernel_rfl); intro _ _ _ _ l1ᵥ; (try k_lt l1ᵥ)))); (try (revert l1ᵥ; intro _))
  k_with "callWith ref" => ((k_here; k_dflt (refine' callWith_bnd ?k1ᵥ ?k2ᵥ ?k3ᵥ ?_; (case k1ᵥ => k_asm); (case k2ᵥ => k_mem); (case k3ᵥ => first | exact .inl rfl | exact .inr rfl))))
  k_with "getMethod ref" => ((k_here; k_dflt (refine' a_methodN ?k1ᵥ ?k2ᵥ ?k3ᵥ ?k4ᵥ ?k5ᵥ ?k6ᵥ ?k7ᵥ ?k8ᵥ ?k9ᵥ ?_; (case k1ᵥ => k_asm); (case k2ᵥ => k_in); (case k3ᵥ => k_asm); (case k4ᵥ => k_mem); (case k5ᵥ => k_mem); (case k6ᵥ => k_is); (case k7ᵥ => k_is); (case k8ᵥ => first | exact .inl rfl | exact .inr rfl); (case k9ᵥ => exact rfl))))
  k_with "getAttr ref" => ((refine' a_getN ?k1ᵥ ?k2ᵥ ?k3ᵥ ?k4ᵥ ?k5ᵥ ?_; (case k1ᵥ => k_asm); (case k2ᵥ => k_in); (case k3ᵥ => k_asm); (case k4ᵥ => k_mem); (case k5ᵥ => k_mem)))
  k_with "call ref" => ((refine unstop ?_))
  trivial
theorem stepW (F : Fr h₀ L h m) (N : News h₀ L h news) (hb : (b, o) ∈ news) (k : ∀ a o, a ≠ b → h.get? a = some o → h'.get? a = some o) (e : h'.get? b = some o') : Fr h₀ L h' m ∧ News h₀ L h' (swapAt news b o') := by
  obtain ⟨h1, h2, h3⟩ := N _ hb
  refine ⟨⟨F.ns.at fun o q => k _ _ (Ne.symm h2) q, fun a o q => k a o (fun z => by subst z; rw [show h₀.get? a = none from h3] at q; cases q) (F.keep a o q), F.above⟩, fun p hp => ?_⟩
  obtain ⟨r, hr, q⟩ := List.mem_map.mp hp
  by_cases hx' : r.1 = b
  · rw [if_pos hx'] at q; subst q
    exact ⟨e, h2, h3⟩
  · rw [if_neg hx'] at q; subst q
    exact ⟨k _ _ hx' (N _ hr).1, (N _ hr).2⟩
theorem AccIn.ne {vs : List Value} {n : Int} {parts : List (Str × Str)} (I : AccIn more x dx vs n parts) (a : Above gb h more) : x ≠ dx := by
  obtain ⟨⟨ep, ho⟩, ⟨hs, tk, t₀, k, hd⟩, hl, ht⟩ := I
  rintro rfl
  have e1 := (a _ hd).1
  rw [(a _ ho).1] at e1
  cases e1
theorem AccIn.ini {vs : List Value} {n n' : Int} {parts : List (Str × Str)} {hs : Int} {tk t : Tok} {k : Nat} (I : AccIn more x dx vs n parts) (a : Above gb h more) : AccIn (swapAt more dx (dictOf (iniE hs tk n' t) k)) x dx vs n' parts := by
  have hne := I.ne a
  have P := I.parts
  obtain ⟨⟨ep, ho⟩, ⟨hs', tk', t₀, k', hd⟩, hl, ht⟩ := I
  have P' := P.of (swap_keeps (o' := dictOf (iniE hs tk n' t) k) ⟨_, hd, by simp⟩ a)
  exact ⟨⟨ep, swapAt_ne ho hne⟩, ⟨hs, tk, t, k, swapAt_mem hd⟩, P'.ln, P'.tp⟩
end
theorem put_ini (hs hs2 : Int) (tk tk2 : Tok) (n : Int) (t : Tok) (v : Int) (tv : Tok) : putL (Str.ofString "_initial_size") hs2 (.str (Str.ofString "_initial_size") tk2) (.int v tv) (iniE hs tk n t) = iniE hs tk v tv := by
  unfold iniE
  have e : (Value.str (Str.ofString "_initial_size") tk).isStr (Str.ofString "_initial_size") = true := by simp [Value.isStr]
  simp only [putL, e, if_true]
theorem words_A18_2 : True := by
  k_with "setItem ref" => ((refine unstop ?_))
  k_with "setAttr ref" => ((refine unstop ?_))
  trivial
theorem fn_reset0 (w : World) (mean : ExcName → Option Value) (mg mb : Str → Option Value) (x dx : Addr) (T : List Addr) (hT : x ∈ T) (hT2 : dx ∈ T) (vs : List Value) (n : Int) (parts : List (Str × Str)) (hz : vs.length ≤ 20) :
   FnA os₀ w mean mg mb 5 203 [.ref x] T (fun more => AccIn more x dx vs n parts) (fun v more more' => v = .none ∧ AccIn more' x dx [] 0 []) := by
  refine FnA.intro fun dp fr gd un g gs dr tk os Q E gb more rm B hk hzz ha hbr tch I ret => ?_
  have B2 := B.keeps (gAt_base hk ha)
  have k2 : Grows (gAt g more) g := gAt_grows
  have a2 := gAt_above ha
  have z2 : (gAt g more).objs.size ≤ g.objs.size := Nat.le_of_eq (hideAll_size _ _)
  have gk := gAt_base hk ha
  clear B hk
  walk_at "mn_enter"
  rename_i Lx hx0 F0 N0
  have N1 := News.lower F0 N0 k2 a2
  have F1 := Fr.lower F0 k2 z2
  rw [List.nil_append] at N1
  have F2 := (show Fr (gAt g more) _ _ (fun y => List.lookup y [(Str.ofString "startval", Value.none), (Str.ofString "self", Value.ref x)]) from F1)
  obtain ⟨ep, hob⟩ := I.ob
  obtain ⟨hs, tk1, t1, k1, hdc⟩ := I.dc
  have N2 := dupN (dupN N1 hdc) (.tail _ hob)
  clear N1 F1 F0 N0
  k_steps
  unfold Stop
  (rename Fr _ _ _ _ => F3); (rename News _ _ _ _ => N3)
  rename_i tk2 l2 h1 lt2 h2
  have F4 := Fr.push F3 { cls := .type "slice", data := .fields #[.none, .none, .none] }
  have N4 := N3.grown (h' := h2.push { cls := .type "slice", data := .fields #[.none, .none, .none] }) fun _ _ e => Heap.get?_push_of_some _ e
  have hl2 := N4.get (.head _)
  have kg := gAt_kept (X := []) (h := h2.push { cls := .type "slice", data := .fields #[.none, .none, .none] }) ha (fun q hq _ => (N4 q (.tail _ (.tail _ (.tail _ hq)))).1) (fun b o _ e => F4.keep b o e)
  have W1 := Went.same (fun b o e => kg b o (by simp) e) ha tch
  refine a_setslice (ws := []) (lo := none) (hi := none) (ys := []) ((Base.K B2).keeps F4.keep) (N4 _ (.tail _ (.head _))).1 (Heap.IsSliceOf.new ..) .none .none ⟨_, hl2, rfl, _, rfl⟩ (by omega) (by simp) (by simp [sliceBounds]) (by simp) fun h5 ep5 e5 sb => ?_
  have kx : ∀ b o, b ≠ x → (h2.push { cls := .type "slice", data := .fields #[.none, .none, .none] }).get? b = some o → h5.get? b = some o := fun b o hb e => sb.extBut _ _ hb e
  have N4m : News (gAt g more) Lx (h2.push { cls := .type "slice", data := .fields #[.none, .none, .none] }) more := News.fewer N4 fun q hq => .tail _ (.tail _ (.tail _ hq))
  obtain ⟨F5, N5⟩ := stepW F4 N4m hob kx e5
  have W2 := Went.swap W1.abv hob hT tch kx e5
  have I2 := AccIn.to (ep' := ep5) I W1.abv PartsIn.nil
  have hdc2 := swapAt_ne (o := acc dx [] ep5) hdc (Ne.symm (I.ne ha))
  have N6 := dupN (dupN N5 hdc2) (.tail _ (swapAt_mem hob))
  clear F3 N3 F4 N4 N4m N5 kx hl2 kg
  dsimp only
  k_steps
  unfold Stop
  (rename Fr _ _ _ _ => F7); (rename News _ _ _ _ => N7)
  refine a_setattr (es := iniE hs tk1 n t1) (n := k1) ((Base.K B2).keeps F7.keep) (N7 _ (.head _)).1 (N7 _ (.tail _ (.head _))).1 (by k_is) (by rfl) (by simp) fun h8 tk8 es' n' he e8 sb8 => ?_
  rw [put_ini] at he
  subst he
  dsimp only
  refine wpAny_execs_nil ?_
  show Q _ _
  have kd : ∀ b o, b ≠ dx → h5.get? b = some o → h8.get? b = some o := fun b o hb e => sb8.extBut _ _ hb e
  have W3 := Went.swap W2.abv hdc2 hT2 (fun a ha => by
    obtain ⟨o, ho⟩ := tch a ha
    by_cases e : a = x
    · subst e; exact ⟨_, swapAt_mem ho⟩
    · exact ⟨_, swapAt_ne ho e⟩) kd e8
  exact ret _ _ _ ((W1.trans W2).trans W3) hbr ⟨rfl, AccIn.ini I2 W2.abv⟩
end
section -- A21
theorem words_A21_0 : True := by
  k_with_none
  w_top off
  trivial
set_option maxHeartbeats 400000
theorem kindLN : builtinKind "list.__new__" = some .builtinFn := by decide +kernel
theorem splitLN : splitId "list.__new__" = some ("list", "__new__") := by decide +kernel
theorem checkLN (rest : List Value) (h : rest.length ≤ 1) : (match Manifest.signature? "list.__new__" with
    | some sig => Bind.checkArgs "list.__new__" sig ⟨.ref 221 :: rest, []⟩
    | none => pure ()) = pure () := by
  cases rest with
  | nil => kernel_rfl
  | cons a t => cases t with
    | nil => kernel_rfl
    | cons b t => exact absurd (Nat.le_of_succ_le_succ h) (Nat.not_succ_le_zero _)
structure MakesA (M : Model) (h : Heap) : Prop where
  obj : ∃ oc od cd sl, h.get? 221 = some ⟨oc, od, .cls cd, sl⟩ ∧ cd.abstract = false ∧ cd.hasDel = false ∧ cd.mro.isEmpty = false
  made : Looks M h (Bind.madeBy (.ref 221)) (some "list.__new__")
  base : Looks M h (Bind.staticBase (.ref 221)) (.ref 221)
  self : Looks M h (isSubtype (.ref 221) (.ref 221)) true
  top : Looks M h (isSubtype (.ref 221) (.type "list")) true
  call : Looks M h (specialOf (.ref 221) "__call__") (some (.builtin "type.__call__"))
  typ : Looks M h (isInstance (.ref 221) (.type "type")) true
noncomputable def makesAIn (K : Frag) : Bool := match K.lookup 221 with
  | some ⟨_, _, .cls cd, sl⟩ => !cd.abstract && !cd.hasDel && (sl.toList[4]?).join == some (.builtin "list.__new__") && !cd.mro.isEmpty && cd.mro.contains (.ref 221) && cd.mro.contains (.type "list") &&
      specialIn K (.ref 221) "__call__" == some (some (.builtin "type.__call__")) && instIn K (.ref 221) (.type "type") == some true
  | _ => false
theorem makesA_of {K : Frag} {M : Model} {h : Heap} (X : K.In h) (e : makesAIn K = true) : MakesA M h := by
  unfold makesAIn at e
  split at e
  · rename_i oc od cd sl ho
    simp only [Bool.and_eq_true, Bool.not_eq_true', beq_iff_eq] at e
    obtain ⟨⟨⟨⟨⟨⟨⟨e1, e2⟩, e3⟩, e4⟩, e5⟩, e6⟩, e7⟩, e8⟩ := e
    have hc : clsIn K 221 = some cd := by unfold clsIn; rw [ho]
    have hm : Looks M h (mroOf (.ref 221)) cd.mro := (looks_clsIn X hc).andThen .now
    obtain ⟨c, l, hl⟩ : ∃ c l, cd.mro = c :: l := by cases q : cd.mro with | nil => rw [q] at e4; cases e4 | cons c l => exact ⟨c, l, rfl⟩
    have made : Looks M h (Bind.madeBy (.ref 221)) (some "list.__new__") := by
      intro A Q E s k q
      unfold Bind.madeBy
      refine wpAny_bind (hm A _ E s k ?_)
      rw [hl, List.forIn_cons]
      refine wpAny_bind (wpAny_bind (wpAny_bind (wpAny_bind (wpAny_loadPart (k _ _ (X _ _ ho)) (wpAny_pure ?_)))))
      dsimp only
      rw [← Array.getElem?_toList, e3]
      exact wpAny_pure (wpAny_pure (wpAny_pure q))
    refine ⟨⟨oc, od, cd, sl, X _ _ ho, e1, e2, e4⟩, made, ?_, looks_mroIn X ?_, looks_mroIn X ?_, looks_specialIn X e7, looks_instIn X e8⟩
    · intro A Q E s k q
      unfold Bind.staticBase
      refine wpAny_bind (hm A _ E s k ?_)
      rw [hl, List.forIn_cons]
      exact wpAny_bind (wpAny_bind (wpAny_bind (made A _ E s k (wpAny_pure (wpAny_pure (wpAny_pure q))))))
    · unfold mroIn; rw [hc, Option.bind_some, if_neg (by rw [e4]; decide), e5]
    · unfold mroIn; rw [hc, Option.bind_some, if_neg (by rw [e4]; decide), e6]
  · cases e
section
variable {prog : Program} {w : World} {A : Around} {R : Result → Shared → Prop} {h : Heap} {g : Array GenState} {d : Drawn} {t : Nat} {os : OsState}
theorem new_A {rest : List Value} (hr : rest.length ≤ 1) (Y : MakesA (model prog w) h)
    (hq : R (.ok (.ret (.ref (h.objs.size + 1)))) ⟨(h.push emptyDict).push (acc h.objs.size [] 0), g, d, t, os⟩) :
    codeAny (model prog w) A (.call (.builtin "list.__new__") ⟨.ref 221 :: rest, []⟩) R ⟨h, g, d, t, os⟩ := by
  obtain ⟨⟨oc, od, cd, sl, hC, e1, e2, e4⟩, made, base, self, top, call, typ⟩ := Y
  refine codeAny_call_builtin_code (Code.quiet_builtin _ (by decide +kernel)) ?_
  have hck := checkLN rest hr
  simp only [checkBuiltinCall, kindLN, splitLN]
  repeat (first | simp only [bne_self_eq_false, Bool.false_eq_true, if_false] | lk)
  refine codeAny_builtin_stack PySem.F.entry_list_new rfl fun p st => ?_
  rw [Around.under_plainId PySem.F.plain_list_new _]
  simp only [owner_list_new]
  repeat (first | simp only [Bool.false_eq_true, if_false, Bool.not_true] | lk)
  refine nd_load (Heap.get?_push_of_some _ (Heap.get?_push_of_some _ hC)) ?_
  refine wpAny_pure ?_
  dsimp only
  rw [e2]
  refine wpAny_pure (wpAny_pure (wpAny_pure ?_))
  show R _ _
  rw [Heap.size_push]
  exact hq
theorem make_coreA {rest : List Value} {init : Value} (hr : rest.length ≤ 1) (Y : MakesA (model prog w) h) (hi : Looks (model prog w) h (typeLookup (.ref 221) "__init__") (some init))
    (hb : ∀ self, Looks (model prog w) h (bindSpecial init self) (init, [self]))
    (hq : codeAny (model prog w) (A.under (.builtin "type.__call__" ⟨.ref 221 :: rest, []⟩)) (.call init ⟨.ref (h.objs.size + 1) :: rest, []⟩) (InitBack (h.objs.size + 1) R) ⟨(h.push emptyDict).push (acc h.objs.size [] 0), g, d, t, os⟩) :
    codeAny (model prog w) A (.call (.ref 221) ⟨rest, []⟩) R ⟨h, g, d, t, os⟩ := by
  have Y' := Y
  obtain ⟨⟨oc, od, cd, sl, hC, e1, e2, e4⟩, made, base, self, top, call, typ⟩ := Y
  refine codeAny_of_tree ?_
  show wpAny _ _ (callAny (.ref 221) _) _ _ _
  refine nd_load hC ?_
  show wpAny _ _ (callAny.viaDunder (.ref 221) _) _ _ _
  unfold callAny.viaDunder
  refine wpAny_bind (call.at ?_)
  dsimp only
  rw [tc_bind]
  refine wpAny_bind (wpAny_pure (wpAny_bind (wpAny_pure ?_)))
  refine wpAny_pure (a := Fin.again (.call (.builtin "type.__call__") ⟨.ref 221 :: rest, []⟩)) (And.intro rfl ?_)
  refine codeAny_call_builtin_at (Code.quiet_builtin _ (by decide +kernel)) entry_typeCall (check_slot tc_kind tc_split typ (tc_args _ _ _) ?_)
  unfold Builtin.«type.__call__»
  have hm : Looks (model prog w) h (mroOf (.ref 221)) cd.mro := ((Looks.ld (part := none) hC).andThen .now).andThen .now
  repeat (first | simp only [e4, Bool.false_eq_true, if_false] | with_reducible refine wpAny_call ?_ | lk)
  refine new_A hr Y' ?_
  have k : ∀ b o, h.get? b = some o → ((h.push emptyDict).push (acc h.objs.size [] 0)).get? b = some o := fun b o e => Heap.get?_push_of_some _ (Heap.get?_push_of_some _ e)
  have hx : ((h.push emptyDict).push (acc h.objs.size [] 0)).get? (h.objs.size + 1) = some (acc h.objs.size [] 0) := by heap_get
  have t1 : Looks (model prog w) ((h.push emptyDict).push (acc h.objs.size [] 0)) (typeOf (.ref (h.objs.size + 1))) (.ref 221) := (Looks.ld hx).andThen .now
  have s1 := self.keeps k
  have i1 := hi.keeps k
  have b1 := (hb (.ref (h.objs.size + 1))).keeps k
  unfold isInstance callSpecial? specialOf
  repeat (first | with_reducible refine wpAny_call ?_ | lk)
  refine codeAny_mono hq fun r s' z => ?_
  rcases r with e | (v | _ | _ | _) <;> first | exact z | exact z.elim | skip
  obtain ⟨rfl, z⟩ := z
  exact wpAny_pure (wpAny_pure z)
end
section
variable {prog : Program} {w w' : World} {A : Around} {x : Addr} {s : Shared} {h₀ : Heap} {L : Addr} {m : Str → Option Value} {news : List (Addr × Obj)} {R : Result → Shared → Prop}
theorem makeA_K {rest : List Value} (hr : rest.length ≤ 1) (F : Fr h₀ L s.heap m) (N : News h₀ L s.heap news) (X : (hd.heap_1 w'.params).In s.heap)
    (h : ∀ x dx h', Fr h₀ L h' m → News h₀ L h' ((x, acc dx [] 0) :: (dx, emptyDict) :: news) → (∀ p ∈ news, p.1 < dx) → dx < x →
      codeAny (model prog w) (A.under (.builtin "type.__call__" ⟨.ref 221 :: rest, []⟩)) (.call (.ref 158) ⟨.ref x :: rest, []⟩) (InitBack x R) { s with heap := h' }) :
    codeAny (model prog w) A (.call (.ref 221) ⟨rest, []⟩) R s := by
  obtain ⟨hh, g, d, t, os⟩ := s
  refine make_coreA hr (makesA_of X (by kernel_rfl)) (looks_findIn X (by kernel_rfl)) (fun self => bind_fn X self (by kernel_rfl)) (h _ hh.objs.size _ ((F.push _).push _) ?_ (fun p hp => Heap.lt_size (N p hp).1) (Nat.lt_succ_self _))
  have := (N.push F emptyDict).push (F.push _) (acc hh.objs.size [] 0)
  rwa [Heap.size_push] at this
end
end
section -- A22
set_option maxHeartbeats 300000
/-- the contract of a call at the level of codes -/
noncomputable abbrev FnAc (os₀ : OsState) (w : World) (mean : ExcName → Option Value) (mg mb : Str → Option Value) (d : Nat) (f : Addr) (args : List Value) (T : List Addr) (Pre : List (Addr × Obj) → Prop) (Post : Value → List (Addr × Obj) → List (Addr × Obj) → Prop) : Prop :=
  ∀ (A : Around) (s : Shared) (R : Result → Shared → Prop) (gb : Heap) (more : List (Addr × Obj)), Room A d → Base w mean mg mb gb → Grows gb s.heap → gb.objs.size ≤ s.heap.objs.size → Above gb s.heap more → Still os₀ s → (∀ a ∈ T, ∃ o, (a, o) ∈ more) → Pre more →
    (∀ v s' more', Went gb s.heap s'.heap T more more' → Still os₀ s' → Post v more more' → R (.ok (.ret v)) s') → codeAny (model PySem.Challenge.rw_xo0029_01.row.prog w) A (.call (.ref f) ⟨args, []⟩) R s
theorem FnAc.intro {os₀ : OsState} {w : World} {mean : ExcName → Option Value} {mg mb : Str → Option Value} {d : Nat} {f : Addr} {args : List Value} {T : List Addr} {Pre : List (Addr × Obj) → Prop} {Post : Value → List (Addr × Obj) → List (Addr × Obj) → Prop}
    (h : ∀ dp fr gd un g gs dr tk os (R : Result → Shared → Prop) gb more, Room ⟨none, dp, fr, gd, un⟩ d → Base w mean mg mb gb → Grows gb g → gb.objs.size ≤ g.objs.size → Above gb g more → Still os₀ ⟨g, gs, dr, tk, os⟩ → (∀ a ∈ T, ∃ o, (a, o) ∈ more) → Pre more → (∀ v s' more', Went gb g s'.heap T more more' → Still os₀ s' → Post v more more' → R (.ok (.ret v)) s') → codeAny (model PySem.Challenge.rw_xo0029_01.row.prog w) ⟨none, dp, fr, gd, un⟩ (.call (.ref f) ⟨args, []⟩) R ⟨g, gs, dr, tk, os⟩) : FnAc os₀ w mean mg mb d f args T Pre Post := by
  rintro ⟨hh, dp, fr, gd, un⟩ ⟨g, gs, dr, tk, os⟩ R gb more r B hk hz ha hs tch p ret
  obtain rfl : hh = none := r.hh
  exact h dp fr gd un g gs dr tk os R gb more r B hk hz ha hs tch p ret
theorem words_A22_1 : True := by
  k_with_none
  w_top off
  k_with "wpAt" => ((ks_step "attributeBase Call"; k_here; k_dflt (refine' a_node ?k1ᵥ ?k2ᵥ ?k3ᵥ ?k4ᵥ ?k5ᵥ ?k6ᵥ ?k7ᵥ ?k8ᵥ ?k9ᵥ ?k10ᵥ ?k11ᵥ ?k12ᵥ ?k13ᵥ ?k14ᵥ ?k15ᵥ ?k16ᵥ ?k17ᵥ ?k18ᵥ ?k19ᵥ ?k20ᵥ ?k21ᵥ ?k22ᵥ ?k23ᵥ ?_; (case k1ᵥ => k_asm); (case k2ᵥ => k_in); (case k3ᵥ => k_asm); (case k4ᵥ => exact Base.T (by assumption)); (case k5ᵥ => k_is); (case k6ᵥ => rfl); (case k7ᵥ => rfl); (case k8ᵥ => k_mem); (case k9ᵥ => k_mem); (case k10ᵥ => k_is); (case k11ᵥ => rfl); (case k12ᵥ => first | rfl | decide +kernel); (case k13ᵥ => k_is); (case k14ᵥ => k_is); (case k15ᵥ => k_is); (case k16ᵥ => k_is); (case k17ᵥ => decide); (case k18ᵥ => rfl); (case k19ᵥ => rfl); (case k20ᵥ => rfl); (case k21ᵥ => rfl); (case k22ᵥ => decide +kernel); (case k23ᵥ => first | boot_by_name | rfl | kernel_rfl); intro _ _ _ _ l1ᵥ; (try k_lt l1ᵥ)))); (try (revert l1ᵥ; intro _))
  k_with "getMethod ref" => ((k_here; k_dflt (refine' sup_methodN ?k1ᵥ ?k2ᵥ ?k3ᵥ ?k4ᵥ ?k5ᵥ ?k6ᵥ ?k7ᵥ ?k8ᵥ ?k9ᵥ ?k10ᵥ ?k11ᵥ ?k12ᵥ ?k13ᵥ ?k14ᵥ ?k15ᵥ ?_; (case k1ᵥ => k_asm); (case k2ᵥ => k_in); (case k3ᵥ => k_asm); (case k4ᵥ => k_mem); (case k5ᵥ => k_mem); (case k6ᵥ => k_is); (case k7ᵥ => ks_is); (case k8ᵥ => decide); (case k9ᵥ => exact slot_wd_get); (case k10ᵥ => exact type_llen); (case k11ᵥ => exact entry_wd_get); (case k12ᵥ => exact args_wd_get); (case k13ᵥ => exact fun a b => wd_get a b (.inl ⟨rfl, rfl⟩)); (case k14ᵥ => exact rfl); (case k15ᵥ => kernel_rfl); intro _ _ _ _ l1ᵥ; (try k_lt l1ᵥ)))); (try (revert l1ᵥ; intro _))
  k_with "getMethod ref" => ((k_here; k_dflt (refine' sup_methodN ?k1ᵥ ?k2ᵥ ?k3ᵥ ?k4ᵥ ?k5ᵥ ?k6ᵥ ?k7ᵥ ?k8ᵥ ?k9ᵥ ?k10ᵥ ?k11ᵥ ?k12ᵥ ?k13ᵥ ?k14ᵥ ?k15ᵥ ?_; (case k1ᵥ => k_asm); (case k2ᵥ => k_in); (case k3ᵥ => k_asm); (case k4ᵥ => k_mem); (case k5ᵥ => k_mem); (case k6ᵥ => k_is); (case k7ᵥ => ks_is); (case k8ᵥ => decide); (case k9ᵥ => exact slot_wd_get); (case k10ᵥ => exact type_linit); (case k11ᵥ => exact entry_wd_get); (case k12ᵥ => exact args_wd_get); (case k13ᵥ => exact fun a b => wd_get a b (.inr ⟨rfl, rfl⟩)); (case k14ᵥ => exact rfl); (case k15ᵥ => kernel_rfl); intro _ _ _ _ l1ᵥ; (try k_lt l1ᵥ)))); (try (revert l1ᵥ; intro _))
  k_with "getMethod ref" => ((k_here; k_dflt (refine' sup_methodN ?k1ᵥ ?k2ᵥ ?k3ᵥ ?k4ᵥ ?k5ᵥ ?k6ᵥ ?k7ᵥ ?k8ᵥ ?k9ᵥ ?k10ᵥ ?k11ᵥ ?k12ᵥ ?k13ᵥ ?k14ᵥ ?k15ᵥ ?_; (case k1ᵥ => k_asm); (case k2ᵥ => k_in); (case k3ᵥ => k_asm); (case k4ᵥ => k_mem); (case k5ᵥ => k_mem); (case k6ᵥ => k_is); (case k7ᵥ => ks_is); (case k8ᵥ => decide); (case k9ᵥ => exact slot_md_get); (case k10ᵥ => exact type_pop); (case k11ᵥ => exact entry_md_get); (case k12ᵥ => exact args_md_get); (case k13ᵥ => exact fun a b => md_get a b); (case k14ᵥ => exact rfl); (case k15ᵥ => kernel_rfl); intro _ _ _ _ l1ᵥ; (try k_lt l1ᵥ)))); (try (revert l1ᵥ; intro _))
  k_with "callWith ref" => ((k_here; k_dflt (refine' callWith_bnd ?k1ᵥ ?k2ᵥ ?k3ᵥ ?_; (case k1ᵥ => k_asm); (case k2ᵥ => k_mem); (case k3ᵥ => first | exact .inl rfl | exact .inr rfl))))
  k_with "getMethod ref" => ((k_here; k_dflt (refine' a_methodN ?k1ᵥ ?k2ᵥ ?k3ᵥ ?k4ᵥ ?k5ᵥ ?k6ᵥ ?k7ᵥ ?k8ᵥ ?k9ᵥ ?_; (case k1ᵥ => k_asm); (case k2ᵥ => k_in); (case k3ᵥ => k_asm); (case k4ᵥ => k_mem); (case k5ᵥ => k_mem); (case k6ᵥ => k_is); (case k7ᵥ => k_is); (case k8ᵥ => first | exact .inl rfl | exact .inr rfl); (case k9ᵥ => exact rfl))))
  k_with "getAttr ref" => ((refine' a_getN ?k1ᵥ ?k2ᵥ ?k3ᵥ ?k4ᵥ ?k5ᵥ ?_; (case k1ᵥ => k_asm); (case k2ᵥ => k_in); (case k3ᵥ => k_asm); (case k4ᵥ => k_mem); (case k5ᵥ => k_mem)))
  k_with "call ref" => ((refine unstop ?_))
  trivial
theorem Room.made {A : Around} {d : Nat} {C : Addr} {rest : List Value} (r : Room A (d + 1)) : Room (A.under (.builtin "type.__call__" ⟨.ref C :: rest, []⟩)) d :=
  ⟨r.hh, by have := r.hd; show A.depth + 1 + d < _; omega, by have := r.hu; show A.units + 1 + 10 * d < _; omega⟩
theorem swapAt_src {more : List (Addr × Obj)} {a : Addr} {o : Obj} (h : ∃ o, (a, o) ∈ more) : ∀ q ∈ swapAt more a o, ∃ o', (q.1, o') ∈ more := fun q hq => by
  obtain ⟨r, hr, e⟩ := List.mem_map.mp hq
  by_cases hx' : r.1 = a
  · rw [if_pos hx'] at e; subst e; exact h
  · rw [if_neg hx'] at e; subst e; exact ⟨_, hr⟩
theorem swapAt_has {more : List (Addr × Obj)} {a b : Addr} {o : Obj} (h : ∃ o', (b, o') ∈ more) : ∃ o', (b, o') ∈ swapAt more a o := by
  obtain ⟨o', h⟩ := h
  by_cases e : b = a
  · subst e; exact ⟨_, swapAt_mem h⟩
  · exact ⟨_, swapAt_ne h e⟩
theorem Went.of {gb g h' : Heap} {T : List Addr} {more more' : List (Addr × Obj)} (ha : Above gb g more) (kept : ∀ b o, b ∉ T → g.get? b = some o → h'.get? b = some o) (at' : ∀ p ∈ more', h'.get? p.1 = some p.2) (src : ∀ q ∈ more', ∃ o, (q.1, o) ∈ more) (tch : ∀ a ∈ T, ∃ o, (a, o) ∈ more) : Went gb g h' T more more' where
  kept := kept
  abv := fun p hp => ⟨at' p hp, by obtain ⟨o, h⟩ := src p hp; exact (ha _ h).2⟩
  src := fun q hq => .inr (src q hq)
  tch := tch
section
variable {w : World} {mean : ExcName → Option Value} {mg mb : Str → Option Value} {A : Around} {s : Shared} {Q : Value → Shared → Prop} {R : Result → Shared → Prop}
theorem enter0c {f : Addr} {oc : Value} {od : Option Addr} {osl : Array (Option Value)} {name qual : Str} {params : Arguments} {body : List Stmt} {scope : Scope} {dV kV doc pm cdv ct : Value} {an : Option Addr} {vs : List Value} {binds : List (Str × Value)}
    (B : Base w mean mg mb s.heap) (hroom : A.depth < recursionLimit)
    (ho : (hd.heap_1 w.params).lookup f = some ⟨oc, od, .func (fnOf name qual params body scope dV kV doc pm an cdv ct), osl⟩) (hcd : codeIn (hd.heap_1 w.params) cdv qual = true)
    (hbind : BindsTo s (fnOf name qual params body scope dV kV doc pm an cdv ct) ⟨vs, []⟩ binds) (hloc : ∀ y ∈ binds, scope.names.lookup y.1 = some .local)
    (hcell : ∀ x ∈ scope.names, x.2 ≠ .cell) (hco : scope.isCoroutine = false) (hgen : scope.isGenerator = false) (hk : scope.kind = .function)
    (h : ∀ L' h₁, Fr s.heap L' h₁ (fun y => binds.reverse.lookup y) → News s.heap L' h₁ [] →
      wpAny (model PySem.Challenge.rw_xo0029_01.row.prog w) (A.deeper (envOf qual scope L' f cdv)) (execs body (envOf qual scope L' f cdv))
        (fun fl s' => Q (match fl with | .ret v => v | _ => .none) s') (fun _ _ => False) { s with heap := h₁, toks := s.toks + binds.length })
    (hQ : ∀ v s', Q v s' → R (.ok (.ret v)) s') : codeAny (model PySem.Challenge.rw_xo0029_01.row.prog w) A (.call (.ref f) ⟨vs, []⟩) R s := by
  refine codeAny_call_def (fd := fnOf name qual params body scope dV kV doc pm an cdv ct) (body := body) (binds := binds) hroom (B.K _ _ ho) rfl B.T.nolimit (codeRec_of B.K hcd) rfl hbind hcell hloc (fun h₁ hns hk₁ => ?_) hco hgen hk
  exact wpAny_mono (h _ h₁ ⟨hns, hk₁, Nat.le_refl _⟩ News.nil) (fun fl s' x => hQ _ _ x) (fun _ _ x => x.elim)
theorem enterSc {f cc : Addr} {oc : Value} {od : Option Addr} {osl : Array (Option Value)} {name qual : Str} {params : Arguments} {body : List Stmt} {scope : Scope} {dV kV doc pm cdv ct : Value} {an : Option Addr} {vs : List Value} {binds : List (Str × Value)}
    (B : Base w mean mg mb s.heap) (hroom : A.depth < recursionLimit)
    (ho : (hd.heap_1 w.params).lookup f = some ⟨oc, od, .func (ksFn name qual params body scope dV kV doc pm an cdv ct cc), osl⟩) (hcd : codeIn (hd.heap_1 w.params) cdv qual = true)
    (hbind : BindsTo s (ksFn name qual params body scope dV kV doc pm an cdv ct cc) ⟨vs, []⟩ binds) (hloc : ∀ y ∈ binds, scope.names.lookup y.1 = some .local)
    (hcell : ∀ x ∈ scope.names, x.2 ≠ .cell) (hco : scope.isCoroutine = false) (hgen : scope.isGenerator = false) (hk : scope.kind = .function)
    (h : ∀ L' h₁, Fr s.heap L' h₁ (fun y => binds.reverse.lookup y) → News s.heap L' h₁ [] →
      _root_.PySem.wpAt (model PySem.Challenge.rw_xo0029_01.row.prog w) (A.deeper (ksEnv qual scope L' f cdv cc)) (.func body (ksEnv qual scope L' f cdv cc)) (execs body (ksEnv qual scope L' f cdv cc))
        (fun fl s' => Q (match fl with | .ret v => v | _ => .none) s') (fun _ _ => False) { s with heap := h₁, toks := s.toks + binds.length })
    (hQ : ∀ v s', Q v s' → R (.ok (.ret v)) s') : codeAny (model PySem.Challenge.rw_xo0029_01.row.prog w) A (.call (.ref f) ⟨vs, []⟩) R s := by
  refine ks_codeAny_call_defAt (fd := ksFn name qual params body scope dV kV doc pm an cdv ct cc) (body := body) (binds := binds) hroom (B.K _ _ ho) rfl B.T.nolimit (codeRec_of B.K hcd) rfl hbind hcell hloc (fun h₁ hns hk₁ => ?_) hco hgen hk
  exact ks_wpAt_mono (h _ h₁ ⟨hns, hk₁, Nat.le_refl _⟩ News.nil) (fun fl s' x => hQ _ _ x) (fun _ _ x => x.elim)
end
theorem words_A22_2 : True := by
  k_with "msc_enter" => ((
  (have Xᵥ := Base.K (by assumption)); (have Tᵥ := Base.T (by assumption)); revert Tᵥ; revert Xᵥ; k_fill; intro _ _
  k_dflt (refine' enterSc ?k1ᵥ ?k2ᵥ ?k3ᵥ ?k4ᵥ ?k5ᵥ ?k6ᵥ ?k7ᵥ ?k8ᵥ ?k9ᵥ ?k10ᵥ ?_ ?k11ᵥ; (case k11ᵥ => assumption); (case k1ᵥ => exact Base.keeps (by assumption) (by assumption)); (case k2ᵥ => exact Room.depth (by assumption)); (case k3ᵥ => k_is); (case k4ᵥ => k_is); (case k5ᵥ => first | exact BindsTo.of_eq rfl | exact binds_K ((Base.K (by assumption)).keeps (by assumption)) rfl (by k_is) rfl rfl rfl | fail "m_enter: no rule for these arguments"); (case k6ᵥ => exact locs rfl); (case k7ᵥ => decide); (case k8ᵥ => exact rfl); (case k9ᵥ => exact rfl); (case k10ᵥ => exact rfl); k_whole; intro _ _ _ _; (try dsimp only); (try k_fold))))
  k_with "setAttr ref" => ((refine unstop ?_))
  trivial
theorem fn_ainit (w : World) (mean : ExcName → Option Value) (mg mb : Str → Option Value) (x dx : Addr) (T : List Addr) (hT : x ∈ T) (hT2 : dx ∈ T) (n : Int) (tn : Tok) (ep k : Nat) :
   FnAc os₀ w mean mg mb 5 158 [.ref x, .int n tn] T (fun more => (x, acc dx [] ep) ∈ more ∧ (dx, dictOf [] k) ∈ more) (fun v more more' => v = .none ∧ AccIn more' x dx [] n []) := by
  refine FnAc.intro fun dp fr gd un g gs dr tk os R gb more rm B hk hzz ha hbr tch Pᵢ ret => ?_
  have hob := Pᵢ.1
  have hdc := Pᵢ.2
  clear Pᵢ
  have B2 := B.keeps (gAt_base hk ha)
  have k2 : Grows (gAt g more) g := gAt_grows
  have a2 := gAt_above ha
  have z2 : (gAt g more).objs.size ≤ g.objs.size := Nat.le_of_eq (hideAll_size _ _)
  have gk := gAt_base hk ha
  have hQ : ∀ v s', (fun (v : Value) (s' : Shared) => R (.ok (.ret v)) s') v s' → R (.ok (.ret v)) s' := fun v s' h => h
  replace ret : ∀ v s' more', Went gb g s'.heap T more more' → Still os₀ s' → (v = .none ∧ AccIn more' x dx [] n []) → (fun (v : Value) (s' : Shared) => R (.ok (.ret v)) s') v s' := ret
  generalize (fun (v : Value) (s' : Shared) => R (.ok (.ret v)) s') = Q at hQ ret
  clear B hk
  walk_at "msc_enter"
  rename_i Lx hx0 F0 N0
  have N1 := News.lower F0 N0 k2 a2
  have F1 := Fr.lower F0 k2 z2
  rw [List.nil_append] at N1
  have F2 := (show Fr (gAt g more) _ _ (fun y => List.lookup y [(Str.ofString "initial_size", Value.int n tn), (Str.ofString "self", Value.ref x)]) from F1)
  have N2 := dupN (dupN N1 hdc) (.tail _ hob)
  clear N1 F1 F0 N0
  k_steps
  unfold Stop
  (rename Fr _ _ _ _ => F3); (rename News _ _ _ _ => N3)
  have hne : dx ≠ x := fun e => by
    subst e
    have e1 := (ha _ hob).1
    rw [(ha _ hdc).1] at e1
    cases e1
  refine a_setattr (es := []) (n := k) ((Base.K B2).keeps F3.keep) (N3 _ (.head _)).1 (N3 _ (.tail _ (.head _))).1 (by k_is) (by rfl) (by simp) fun h4 tk4 es' n' he e4 sb4 => ?_
  dsimp only [putL] at he
  generalize hhs : PyData.keyHash _ _ = hs4 at he
  obtain ⟨tq, rfl⟩ : ∃ tq, es' = iniE hs4 tq n tn := ⟨_, he⟩
  clear he
  have N3m : News (gAt g more) Lx hx0 more := News.fewer N3 fun q hq => .tail _ (.tail _ hq)
  obtain ⟨F5, N5⟩ := stepW F3 N3m hdc (fun b o hb e => sb4.extBut _ _ hb e) e4
  have N6 := dupN (dupN N5 (swapAt_mem hdc)) (.tail _ (swapAt_ne hob (Ne.symm hne)))
  have kg4 : ∀ b o, b ∉ [dx] → (gAt g more).get? b = some o → h4.get? b = some o := fun b o hb e => sb4.extBut _ _ (by simpa using hb) (F3.keep b o e)
  clear F3 N3 N3m
  dsimp only
  refine ks_wpAt_execs_cons ?_
  refine ks_wpAt_Expr_any ?_
  refine ks_wpAt_MethodCall ?_
  k_steps
  unfold Stop
  (rename Fr _ _ _ _ => F7); (rename News _ _ _ _ => N7)
  refine bnd_init (N7 _ (.head _)).1 (N7 _ (.tail _ (.tail _ (.head _)))).1 (by simp) fun h8 ep8 e8 sb8 => ?_
  dsimp only
  refine wpAt_of_wpAny (wpAny_execs_nil ?_)
  show Q _ _
  have N7m := News.fewer N7 (ns := swapAt more dx (dictOf (iniE hs4 tq n tn) n')) fun q hq => .tail _ (.tail _ (.tail _ (.tail _ hq)))
  have hob2 := swapAt_ne (o := dictOf (iniE hs4 tq n tn) n') hob (Ne.symm hne)
  have hdc2 := swapAt_mem (o := dictOf (iniE hs4 tq n tn) n') hdc
  have N8 := (stepW F7 N7m hob2 (fun b o hb e => sb8.extBut _ _ hb e) e8)
  have kg := gAt_kept (X := [x, dx]) (h := h8) ha (fun q hq hn => (N8.2 _ (swapAt_ne (swapAt_ne hq (by simp at hn; exact hn.2)) (by simp at hn; exact hn.1))).1) (fun b o hb e => N8.1.keep b o e)

  refine ret _ _ (swapAt (swapAt more dx (dictOf (iniE hs4 tq n tn) n')) x (acc dx [] ep8)) (Went.of ha (fun b o hb e => kg b o ?_ e) (fun p hp => (N8.2 p hp).1) (fun q hq => ?_) tch) hbr ⟨rfl, ⟨ep8, swapAt_mem hob2⟩, ⟨hs4, tq, tn, n', ?_⟩, rfl, fun j p e => by simp at e⟩
  · intro hm
    rcases List.mem_cons.mp hm with rfl | hm
    · exact hb hT
    · rcases List.mem_cons.mp hm with rfl | hm
      · exact hb hT2
      · cases hm
  · obtain ⟨o, h⟩ := swapAt_src ⟨_, hob2⟩ q hq
    exact swapAt_src ⟨_, hdc⟩ (q.1, o) h
  · exact swapAt_ne (o := acc dx [] ep8) hdc2 hne
end
section -- A19
set_option maxHeartbeats 300000
section
variable {prog : Program} {w' w : World} {A : Around} {E : Value → Shared → Prop} {s : Shared} {x dx L : Addr} {vs zs : List Value} {ep : Nat} {h₀ : Heap} {m : Str → Option Value} {news : List (Addr × Obj)}
theorem words_A19_1 : True := by
  k_with_none
  w_top off
  k_with "mn_enter" => ((
  (have Xᵥ := Base.K (by assumption)); (have Tᵥ := Base.T (by assumption)); revert Tᵥ; revert Xᵥ; k_fill; intro _ _
  k_dflt (refine' enter0 ?k1ᵥ ?k2ᵥ ?k3ᵥ ?k4ᵥ ?k5ᵥ ?k6ᵥ ?k7ᵥ ?k8ᵥ ?k9ᵥ ?k10ᵥ ?_; (case k1ᵥ => exact Base.keeps (by assumption) (by assumption)); (case k2ᵥ => exact Room.depth (by assumption)); (case k3ᵥ => k_is); (case k4ᵥ => k_is); (case k5ᵥ => first | exact BindsTo.of_eq rfl | exact binds_K ((Base.K (by assumption)).keeps (by assumption)) rfl (by k_is) rfl rfl rfl | fail "m_enter: no rule for these arguments"); (case k6ᵥ => exact locs rfl); (case k7ᵥ => decide); (case k8ᵥ => exact rfl); (case k9ᵥ => exact rfl); (case k10ᵥ => exact rfl); k_whole; intro _ _ _ _; (try dsimp only); (try k_fold))))
  k_with "wpAt" => ((ks_step "attributeBase Call"; k_here; k_dflt (refine' a_node ?k1ᵥ ?k2ᵥ ?k3ᵥ ?k4ᵥ ?k5ᵥ ?k6ᵥ ?k7ᵥ ?k8ᵥ ?k9ᵥ ?k10ᵥ ?k11ᵥ ?k12ᵥ ?k13ᵥ ?k14ᵥ ?k15ᵥ ?k16ᵥ ?k17ᵥ ?k18ᵥ ?k19ᵥ ?k20ᵥ ?k21ᵥ ?k22ᵥ ?k23ᵥ ?_; (case k1ᵥ => k_asm); (case k2ᵥ => k_in); (case k3ᵥ => k_asm); (case k4ᵥ => exact Base.T (by assumption)); (case k5ᵥ => k_is); (case k6ᵥ => rfl); (case k7ᵥ => rfl); (case k8ᵥ => k_mem); (case k9ᵥ => k_mem); (case k10ᵥ => k_is); (case k11ᵥ => rfl); (case k12ᵥ => first | rfl | decide +kernel); (case k13ᵥ => k_is); (case k14ᵥ => k_is); (case k15ᵥ => k_is); (case k16ᵥ => k_is); (case k17ᵥ => decide); (case k18ᵥ => rfl); (case k19ᵥ => rfl); (case k20ᵥ => rfl); (case k21ᵥ => rfl); (case k22ᵥ => decide +kernel); (case k23ᵥ => first | boot_by_name | rfl | kernel_rfl); intro _ _ _ _ l1ᵥ; (try k_lt l1ᵥ)))); (try (revert l1ᵥ; intro _))
  k_with "getMethod ref" => ((k_here; k_dflt (refine' sup_methodN ?k1ᵥ ?k2ᵥ ?k3ᵥ ?k4ᵥ ?k5ᵥ ?k6ᵥ ?k7ᵥ ?k8ᵥ ?k9ᵥ ?k10ᵥ ?k11ᵥ ?k12ᵥ ?k13ᵥ ?k14ᵥ ?k15ᵥ ?_; (case k1ᵥ => k_asm); (case k2ᵥ => k_in); (case k3ᵥ => k_asm); (case k4ᵥ => k_mem); (case k5ᵥ => k_mem); (case k6ᵥ => k_is); (case k7ᵥ => ks_is); (case k8ᵥ => decide); (case k9ᵥ => exact slot_wd_get); (case k10ᵥ => exact type_llen); (case k11ᵥ => exact entry_wd_get); (case k12ᵥ => exact args_wd_get); (case k13ᵥ => exact fun a b => wd_get a b (.inl ⟨rfl, rfl⟩)); (case k14ᵥ => exact rfl); (case k15ᵥ => kernel_rfl); intro _ _ _ _ l1ᵥ; (try k_lt l1ᵥ)))); (try (revert l1ᵥ; intro _))
  k_with "getMethod ref" => ((k_here; k_dflt (refine' sup_methodN ?k1ᵥ ?k2ᵥ ?k3ᵥ ?k4ᵥ ?k5ᵥ ?k6ᵥ ?k7ᵥ ?k8ᵥ ?k9ᵥ ?k10ᵥ ?k11ᵥ ?k12ᵥ ?k13ᵥ ?k14ᵥ ?k15ᵥ ?_; (case k1ᵥ => k_asm); (case k2ᵥ => k_in); (case k3ᵥ => k_asm); (case k4ᵥ => k_mem); (case k5ᵥ => k_mem); (case k6ᵥ => k_is); (case k7ᵥ => ks_is); (case k8ᵥ => decide); (case k9ᵥ => exact slot_wd_get); (case k10ᵥ => exact type_linit); (case k11ᵥ => exact entry_wd_get); (case k12ᵥ => exact args_wd_get); (case k13ᵥ => exact fun a b => wd_get a b (.inr ⟨rfl, rfl⟩)); (case k14ᵥ => exact rfl); (case k15ᵥ => kernel_rfl); intro _ _ _ _ l1ᵥ; (try k_lt l1ᵥ)))); (try (revert l1ᵥ; intro _))
  k_with "getMethod ref" => ((k_here; k_dflt (refine' sup_methodN ?k1ᵥ ?k2ᵥ ?k3ᵥ ?k4ᵥ ?k5ᵥ ?k6ᵥ ?k7ᵥ ?k8ᵥ ?k9ᵥ ?k10ᵥ ?k11ᵥ ?k12ᵥ ?k13ᵥ ?k14ᵥ ?k15ᵥ ?_; (case k1ᵥ => k_asm); (case k2ᵥ => k_in); (case k3ᵥ => k_asm); (case k4ᵥ => k_mem); (case k5ᵥ => k_mem); (case k6ᵥ => k_is); (case k7ᵥ => ks_is); (case k8ᵥ => decide); (case k9ᵥ => exact slot_md_get); (case k10ᵥ => exact type_pop); (case k11ᵥ => exact entry_md_get); (case k12ᵥ => exact args_md_get); (case k13ᵥ => exact fun a b => md_get a b); (case k14ᵥ => exact rfl); (case k15ᵥ => kernel_rfl); intro _ _ _ _ l1ᵥ; (try k_lt l1ᵥ)))); (try (revert l1ᵥ; intro _))
  k_with "callWith ref" => ((k_here; k_dflt (refine' callWith_bnd ?k1ᵥ ?k2ᵥ ?k3ᵥ ?_; (case k1ᵥ => k_asm); (case k2ᵥ => k_mem); (case k3ᵥ => first | exact .inl rfl | exact .inr rfl))))
  k_with "getMethod ref" => ((k_here; k_dflt (refine' a_methodN ?k1ᵥ ?k2ᵥ ?k3ᵥ ?k4ᵥ ?k5ᵥ ?k6ᵥ ?k7ᵥ ?k8ᵥ ?k9ᵥ ?_; (case k1ᵥ => k_asm); (case k2ᵥ => k_in); (case k3ᵥ => k_asm); (case k4ᵥ => k_mem); (case k5ᵥ => k_mem); (case k6ᵥ => k_is); (case k7ᵥ => k_is); (case k8ᵥ => first | exact .inl rfl | exact .inr rfl); (case k9ᵥ => exact rfl))))
  k_with "getAttr ref" => ((refine' a_getN ?k1ᵥ ?k2ᵥ ?k3ᵥ ?k4ᵥ ?k5ᵥ ?_; (case k1ᵥ => k_asm); (case k2ᵥ => k_in); (case k3ᵥ => k_asm); (case k4ᵥ => k_mem); (case k5ᵥ => k_mem)))
  k_with "call ref" => ((refine unstop ?_))
  k_with "setItem ref" => ((refine unstop ?_))
  trivial
theorem a_subTail {value slice : Expr} {i : Value} {ops : List Value} {Q : Value → Shared → Prop} (X : (hd.heap_1 w'.params).In s.heap) (hx : s.heap.get? x = some (acc dx vs ep)) (h : wpAny (model prog w) A (getItem (.ref x) i) Q E s)
    (hs : subscripted slice false (.ref x) i = operate ops (getItem (.ref x) i)) (ht : ∀ r, letTemporaryGo value (.ref x) r = pure ()) : wpAny (model prog w) A (subscriptTail value slice (.ref x) i) Q E s := by
  have sp : Looks (model prog w) s.heap (specialOf (.ref x) "__getitem__") (some (.builtin "list.__getitem__")) := ac_spec X hx (by kernel_rfl)
  unfold subscriptTail getitemInPython
  refine wpAny_bind (wpAny_bind (sp.here ?_))
  dsimp only
  refine wpAny_pure (wpAny_bind ?_)
  rw [hs]
  exact wpAny_operating (wpAny_mono h (fun r s₃ h₃ => wpAny_bind (wpAny_of_eq (ht r) (wpAny_pure h₃))) fun _ _ x => x)
theorem a_sliceN {value slice : Expr} {vl vu : Value} {lo hi : Option Int} {Q : Value → Shared → Prop} (F : Fr h₀ L s.heap m) (X : (hd.heap_1 w'.params).In h₀) (N : News h₀ L s.heap news) (hx : (x, acc dx vs ep) ∈ news) (pl : IsPart vl lo) (pu : IsPart vu hi) (hz : vs.length ≤ 500) (hpk : slicePick vs.toArray lo hi none = zs.toArray)
    (h : ∀ D h', Fr h₀ L h' m → News h₀ L h' ((D, lst zs) :: news) → (∀ p ∈ news, p.1 < D) → Q (.ref D) { s with heap := h' })
    (hs : subscripted slice false (.ref x) (.ref s.heap.objs.size) = operate [.ref s.heap.objs.size, .ref x] (getItem (.ref x) (.ref s.heap.objs.size))) (ht : ∀ r, letTemporaryGo value (.ref x) r = pure ()) :
    wpAny (model prog w) A (subscriptTail value slice (.ref x) (.ref s.heap.objs.size)) Q E { s with heap := s.heap.push { cls := .type "slice", data := .fields #[vl, vu, .none] } } := by
  have F4 := Fr.push F { cls := .type "slice", data := .fields #[vl, vu, .none] }
  have N4 := N.grown (h' := s.heap.push { cls := .type "slice", data := .fields #[vl, vu, .none] }) fun _ _ e => Heap.get?_push_of_some _ e
  refine a_subTail (X.keeps F4.keep) (N4 _ hx).1 (a_getslice (X.keeps F4.keep) (N4 _ hx).1 (Heap.IsSliceOf.new ..) pl pu hz ?_) hs ht
  rw [hpk]
  exact h _ _ (Fr.push F4 _) (News.push F4 N4 _) fun p hp => Heap.lt_size (N4 p hp).1
end
theorem words_A19_2 : True := by
  k_with "subscriptTail" => ((k_here; k_dflt (refine' a_sliceN ?Fᵥ ?Xᵥ ?Nᵥ ?lᵥ ?pᵥ ?qᵥ ?zᵥ ?eᵥ ?_ ?sᵥ ?tᵥ; (case Fᵥ => k_asm); (case Xᵥ => k_in); (case Nᵥ => k_asm); (case lᵥ => k_mem); (case pᵥ => exact IsPart.int _ _); (case qᵥ => exact IsPart.none); (case zᵥ => omega); (case eᵥ => assumption); (case sᵥ => with_unfolding_all rfl); (case tᵥ => (intro _; with_unfolding_all rfl)); intro _ _ _ _ l1ᵥ; (try k_lt l1ᵥ)))); (try (revert l1ᵥ; intro _))
  trivial
theorem fn_popf (w : World) (mean : ExcName → Option Value) (mg mb : Str → Option Value) (x dx : Addr) (T : List Addr) (hT : x ∈ T) (vs : List Value) (n : Int) (p1 p2 : List (Str × Str)) (ti : Tok) (hz : vs.length ≤ 20) :
   FnA os₀ w mean mg mb 5 173 [.ref x, .int (p1.length : Int) ti] T (fun more => AccIn more x dx vs n (p1 ++ p2)) (fun v more more' => ∃ D, v = .ref D ∧ (D, lst (vs.drop p1.length)) ∈ more' ∧ PartsIn more' (vs.drop p1.length) p2 ∧ AccIn more' x dx (vs.take p1.length) n p1) := by
  refine FnA.intro fun dp fr gd un g gs dr tk os Q E gb more rm B hk hzz ha hbr tch I ret => ?_
  have B2 := B.keeps (gAt_base hk ha)
  have k2 : Grows (gAt g more) g := gAt_grows
  have a2 := gAt_above ha
  have z2 : (gAt g more).objs.size ≤ g.objs.size := Nat.le_of_eq (hideAll_size _ _)
  have gk := gAt_base hk ha
  clear B hk
  generalize hi : (p1.length : Int) = i at *
  have hpl := I.ln
  rw [List.length_append] at hpl
  have hpk : slicePick vs.toArray (some i) none none = (vs.drop p1.length).toArray := by rw [← hi, slicePick_from _ _ (by simp; omega)]
  walk_at "mn_enter"
  rename_i Lx hx0 F0 N0
  have N1 := News.lower F0 N0 k2 a2
  have F1 := Fr.lower F0 k2 z2
  rw [List.nil_append] at N1
  have F2 := (show Fr (gAt g more) _ _ (fun y => List.lookup y [(Str.ofString "i", Value.int i ti), (Str.ofString "self", Value.ref x)]) from F1)
  obtain ⟨ep, hob⟩ := I.ob
  obtain ⟨hs, tk1, t1, k1, hdc⟩ := I.dc
  have N2 := dupN (dupN N1 hdc) (.tail _ hob)
  clear N1 F1 F0 N0
  k_steps
  unfold Stop
  (rename Fr _ _ _ _ => F3); (rename News _ _ _ _ => N3)
  rename_i D2 h1 lt1 h2 l2 h3 lt2
  have F4 := Fr.push F3 { cls := .type "slice", data := .fields #[.int i ti, .none, .none] }
  have N4 := N3.grown (h' := h3.push { cls := .type "slice", data := .fields #[.int i ti, .none, .none] }) fun _ _ e => Heap.get?_push_of_some _ e
  have hl2 := N4.get (.head _)
  have kg := gAt_kept (X := []) (h := h3.push { cls := .type "slice", data := .fields #[.int i ti, .none, .none] }) ha (fun q hq _ => (N4 q (.tail _ (.tail _ (.tail _ (.tail _ hq))))).1) (fun b o _ e => F4.keep b o e)
  have W1 := Went.same (fun b o e => kg b o (by simp) e) ha tch
  have hb : (sliceBounds (some i) none none vs.length) = (i, (vs.length : Int), 1) := by
    rw [← hi]
    simp only [sliceBounds, Option.getD_none, show (1 : Int) > 0 by decide, if_true]
    rw [if_neg (by omega)]
    refine Prod.ext ?_ rfl
    show max 0 (min (p1.length : Int) vs.length) = _
    omega
  have hD := (N4 _ (.tail _ (.head _)))
  have frD : g.get? D2 = none := gAt_fresh hD.2.2 (allLt_ne lt1.2.2)
  have gD : gb.get? D2 = none := by
    cases z : gb.get? D2 with
    | none => rfl
    | some o => rw [k2 _ _ (gk _ _ z)] at frD; cases frD
  refine a_setslice (ws := vs.take p1.length) (lo := some i) (hi := none) (ys := []) ((Base.K B2).keeps F4.keep) (N4 _ (.tail _ (.tail _ (.head _)))).1 (Heap.IsSliceOf.new ..) (.int i ti) .none ⟨_, hl2, rfl, _, rfl⟩ (by omega) (by simp) ?_ (by simp; omega) fun h5 ep5 e5 sb => ?_
  · rw [hb, ← hi]
    dsimp only
    rw [show max (p1.length : Int) (vs.length : Int) = (vs.length : Int) by omega]
    apply Array.ext'
    simp
  have kx : ∀ b o, b ≠ x → (h3.push { cls := .type "slice", data := .fields #[.int i ti, .none, .none] }).get? b = some o → h5.get? b = some o := fun b o hb e => sb.extBut _ _ hb e
  have W2 := Went.swap W1.abv hob hT tch kx e5
  have PS := PartsIn.split I.parts
  have I2 := AccIn.to (ep' := ep5) I W1.abv PS.1
  have P2 := PS.2.of (swap_keeps (o' := acc dx (vs.take p1.length) ep5) ⟨_, hob, by simp⟩ W1.abv)
  have e9 := kx _ _ (Ne.symm (Nat.ne_of_lt lt1.1)) hD.1
  have N4m : News (gAt g more) Lx (h3.push { cls := .type "slice", data := .fields #[.int i ti, .none, .none] }) more := News.fewer N4 fun q hq => .tail _ (.tail _ (.tail _ (.tail _ hq)))
  obtain ⟨F5, N5⟩ := stepW F4 N4m hob kx e5
  clear F3 N3 F4 N4 N4m kx hl2 kg
  dsimp only
  k_steps
  show Q _ _
  exact ret _ _ _ ((W1.trans W2).made frD gD e9) hbr ⟨_, rfl, .head _, P2.of fun _ _ _ _ h => .tail _ h, I2.incl fun _ h => .tail _ h⟩
end
section -- A20
set_option maxHeartbeats 300000
theorem words_A20_1 : True := by
  k_with_none
  w_top off
  k_with "mn_enter" => ((
  (have Xᵥ := Base.K (by assumption)); (have Tᵥ := Base.T (by assumption)); revert Tᵥ; revert Xᵥ; k_fill; intro _ _
  k_dflt (refine' enter0 ?k1ᵥ ?k2ᵥ ?k3ᵥ ?k4ᵥ ?k5ᵥ ?k6ᵥ ?k7ᵥ ?k8ᵥ ?k9ᵥ ?k10ᵥ ?_; (case k1ᵥ => exact Base.keeps (by assumption) (by assumption)); (case k2ᵥ => exact Room.depth (by assumption)); (case k3ᵥ => k_is); (case k4ᵥ => k_is); (case k5ᵥ => first | exact BindsTo.of_eq rfl | exact binds_K ((Base.K (by assumption)).keeps (by assumption)) rfl (by k_is) rfl rfl rfl | fail "m_enter: no rule for these arguments"); (case k6ᵥ => exact locs rfl); (case k7ᵥ => decide); (case k8ᵥ => exact rfl); (case k9ᵥ => exact rfl); (case k10ᵥ => exact rfl); k_whole; intro _ _ _ _; (try dsimp only); (try k_fold))))
  k_with "wpAt" => ((ks_step "attributeBase Call"; k_here; k_dflt (refine' a_node ?k1ᵥ ?k2ᵥ ?k3ᵥ ?k4ᵥ ?k5ᵥ ?k6ᵥ ?k7ᵥ ?k8ᵥ ?k9ᵥ ?k10ᵥ ?k11ᵥ ?k12ᵥ ?k13ᵥ ?k14ᵥ ?k15ᵥ ?k16ᵥ ?k17ᵥ ?k18ᵥ ?k19ᵥ ?k20ᵥ ?k21ᵥ ?k22ᵥ ?k23ᵥ ?_; (case k1ᵥ => k_asm); (case k2ᵥ => k_in); (case k3ᵥ => k_asm); (case k4ᵥ => exact Base.T (by assumption)); (case k5ᵥ => k_is); (case k6ᵥ => rfl); (case k7ᵥ => rfl); (case k8ᵥ => k_mem); (case k9ᵥ => k_mem); (case k10ᵥ => k_is); (case k11ᵥ => rfl); (case k12ᵥ => first | rfl | decide +kernel); (case k13ᵥ => k_is); (case k14ᵥ => k_is); (case k15ᵥ => k_is); (case k16ᵥ => k_is); (case k17ᵥ => decide); (case k18ᵥ => rfl); (case k19ᵥ => rfl); (case k20ᵥ => rfl); (case k21ᵥ => rfl); (case k22ᵥ => decide +kernel); (case k23ᵥ => first | boot_by_name | rfl | kernel_rfl); intro _ _ _ _ l1ᵥ; (try k_lt l1ᵥ)))); (try (revert l1ᵥ; intro _))
  k_with "getMethod ref" => ((k_here; k_dflt (refine' sup_methodN ?k1ᵥ ?k2ᵥ ?k3ᵥ ?k4ᵥ ?k5ᵥ ?k6ᵥ ?k7ᵥ ?k8ᵥ ?k9ᵥ ?k10ᵥ ?k11ᵥ ?k12ᵥ ?k13ᵥ ?k14ᵥ ?k15ᵥ ?_; (case k1ᵥ => k_asm); (case k2ᵥ => k_in); (case k3ᵥ => k_asm); (case k4ᵥ => k_mem); (case k5ᵥ => k_mem); (case k6ᵥ => k_is); (case k7ᵥ => ks_is); (case k8ᵥ => decide); (case k9ᵥ => exact slot_wd_get); (case k10ᵥ => exact type_llen); (case k11ᵥ => exact entry_wd_get); (case k12ᵥ => exact args_wd_get); (case k13ᵥ => exact fun a b => wd_get a b (.inl ⟨rfl, rfl⟩)); (case k14ᵥ => exact rfl); (case k15ᵥ => kernel_rfl); intro _ _ _ _ l1ᵥ; (try k_lt l1ᵥ)))); (try (revert l1ᵥ; intro _))
  k_with "getMethod ref" => ((k_here; k_dflt (refine' sup_methodN ?k1ᵥ ?k2ᵥ ?k3ᵥ ?k4ᵥ ?k5ᵥ ?k6ᵥ ?k7ᵥ ?k8ᵥ ?k9ᵥ ?k10ᵥ ?k11ᵥ ?k12ᵥ ?k13ᵥ ?k14ᵥ ?k15ᵥ ?_; (case k1ᵥ => k_asm); (case k2ᵥ => k_in); (case k3ᵥ => k_asm); (case k4ᵥ => k_mem); (case k5ᵥ => k_mem); (case k6ᵥ => k_is); (case k7ᵥ => ks_is); (case k8ᵥ => decide); (case k9ᵥ => exact slot_wd_get); (case k10ᵥ => exact type_linit); (case k11ᵥ => exact entry_wd_get); (case k12ᵥ => exact args_wd_get); (case k13ᵥ => exact fun a b => wd_get a b (.inr ⟨rfl, rfl⟩)); (case k14ᵥ => exact rfl); (case k15ᵥ => kernel_rfl); intro _ _ _ _ l1ᵥ; (try k_lt l1ᵥ)))); (try (revert l1ᵥ; intro _))
  k_with "getMethod ref" => ((k_here; k_dflt (refine' sup_methodN ?k1ᵥ ?k2ᵥ ?k3ᵥ ?k4ᵥ ?k5ᵥ ?k6ᵥ ?k7ᵥ ?k8ᵥ ?k9ᵥ ?k10ᵥ ?k11ᵥ ?k12ᵥ ?k13ᵥ ?k14ᵥ ?k15ᵥ ?_; (case k1ᵥ => k_asm); (case k2ᵥ => k_in); (case k3ᵥ => k_asm); (case k4ᵥ => k_mem); (case k5ᵥ => k_mem); (case k6ᵥ => k_is); (case k7ᵥ => ks_is); (case k8ᵥ => decide); (case k9ᵥ => exact slot_md_get); (case k10ᵥ => exact type_pop); (case k11ᵥ => exact entry_md_get); (case k12ᵥ => exact args_md_get); (case k13ᵥ => exact fun a b => md_get a b); (case k14ᵥ => exact rfl); (case k15ᵥ => kernel_rfl); intro _ _ _ _ l1ᵥ; (try k_lt l1ᵥ)))); (try (revert l1ᵥ; intro _))
  k_with "callWith ref" => ((k_here; k_dflt (refine' callWith_bnd ?k1ᵥ ?k2ᵥ ?k3ᵥ ?_; (case k1ᵥ => k_asm); (case k2ᵥ => k_mem); (case k3ᵥ => first | exact .inl rfl | exact .inr rfl))))
  k_with "getMethod ref" => ((k_here; k_dflt (refine' a_methodN ?k1ᵥ ?k2ᵥ ?k3ᵥ ?k4ᵥ ?k5ᵥ ?k6ᵥ ?k7ᵥ ?k8ᵥ ?k9ᵥ ?_; (case k1ᵥ => k_asm); (case k2ᵥ => k_in); (case k3ᵥ => k_asm); (case k4ᵥ => k_mem); (case k5ᵥ => k_mem); (case k6ᵥ => k_is); (case k7ᵥ => k_is); (case k8ᵥ => first | exact .inl rfl | exact .inr rfl); (case k9ᵥ => exact rfl))))
  k_with "getAttr ref" => ((refine' a_getN ?k1ᵥ ?k2ᵥ ?k3ᵥ ?k4ᵥ ?k5ᵥ ?_; (case k1ᵥ => k_asm); (case k2ᵥ => k_in); (case k3ᵥ => k_asm); (case k4ᵥ => k_mem); (case k5ᵥ => k_mem)))
  k_with "call ref" => ((refine unstop ?_))
  k_with "setItem ref" => ((refine unstop ?_))
  k_with "setAttr ref" => ((refine unstop ?_))
  trivial
theorem fn_reset1 (w : World) (mean : ExcName → Option Value) (mg mb : Str → Option Value) (x dx : Addr) (T : List Addr) (hT : x ∈ T) (hT2 : dx ∈ T) (vs : List Value) (n : Int) (parts : List (Str × Str)) (yl : Addr) (us : List Value) (ps : List (Str × Str)) (hz : vs.length ≤ 20) (hz2 : us.length ≤ 20) :
   FnA os₀ w mean mg mb 5 203 [.ref x, .ref yl] T (fun more => AccIn more x dx vs n parts ∧ (yl, lst us) ∈ more ∧ PartsIn more us ps) (fun v more more' => v = .none ∧ AccIn more' x dx us 0 ps) := by
  refine FnA.intro fun dp fr gd un g gs dr tk os Q E gb more rm B hk hzz ha hbr tch Pᵢ ret => ?_
  have I := Pᵢ.1
  have hyl := Pᵢ.2.1
  have PU := Pᵢ.2.2
  clear Pᵢ
  have B2 := B.keeps (gAt_base hk ha)
  have k2 : Grows (gAt g more) g := gAt_grows
  have a2 := gAt_above ha
  have z2 : (gAt g more).objs.size ≤ g.objs.size := Nat.le_of_eq (hideAll_size _ _)
  have gk := gAt_base hk ha
  clear B hk
  walk_at "mn_enter"
  rename_i Lx hx0 F0 N0
  have N1 := News.lower F0 N0 k2 a2
  have F1 := Fr.lower F0 k2 z2
  rw [List.nil_append] at N1
  have F2 := (show Fr (gAt g more) _ _ (fun y => List.lookup y [(Str.ofString "startval", Value.ref yl), (Str.ofString "self", Value.ref x)]) from F1)
  obtain ⟨ep, hob⟩ := I.ob
  obtain ⟨hs, tk1, t1, k1, hdc⟩ := I.dc
  have N2 := dupN (dupN N1 hdc) (.tail _ hob)
  clear N1 F1 F0 N0
  k_steps
  unfold Stop
  (rename Fr _ _ _ _ => F3); (rename News _ _ _ _ => N3)
  have F4 := Fr.push F3 { cls := .type "slice", data := .fields #[.none, .none, .none] }
  have N4 := N3.grown (h' := hx0.push { cls := .type "slice", data := .fields #[.none, .none, .none] }) fun _ _ e => Heap.get?_push_of_some _ e
  have hl2 := (N4 _ (.tail _ (.tail _ hyl))).1
  have kg := gAt_kept (X := []) (h := hx0.push { cls := .type "slice", data := .fields #[.none, .none, .none] }) ha (fun q hq _ => (N4 q (.tail _ (.tail _ hq))).1) (fun b o _ e => F4.keep b o e)
  have W1 := Went.same (fun b o e => kg b o (by simp) e) ha tch
  refine a_setslice (ws := us) (lo := none) (hi := none) (ys := us) ((Base.K B2).keeps F4.keep) (N4 _ (.head _)).1 (Heap.IsSliceOf.new ..) .none .none ⟨_, hl2, rfl, _, rfl⟩ (by omega) (by omega) (by simp [sliceBounds]) (by omega) fun h5 ep5 e5 sb => ?_
  have kx : ∀ b o, b ≠ x → (hx0.push { cls := .type "slice", data := .fields #[.none, .none, .none] }).get? b = some o → h5.get? b = some o := fun b o hb e => sb.extBut _ _ hb e
  have N4m : News (gAt g more) Lx (hx0.push { cls := .type "slice", data := .fields #[.none, .none, .none] }) more := News.fewer N4 fun q hq => .tail _ (.tail _ hq)
  obtain ⟨F5, N5⟩ := stepW F4 N4m hob kx e5
  have W2 := Went.swap W1.abv hob hT tch kx e5
  have I2 := AccIn.to (ep' := ep5) I W1.abv PU
  have hdc2 := swapAt_ne (o := acc dx us ep5) hdc (Ne.symm (I.ne ha))
  have N6 := dupN (dupN N5 hdc2) (.tail _ (swapAt_mem hob))
  clear F3 N3 F4 N4 N4m N5 kx hl2 kg
  dsimp only
  k_steps
  unfold Stop
  (rename Fr _ _ _ _ => F7); (rename News _ _ _ _ => N7)
  refine a_setattr (es := iniE hs tk1 n t1) (n := k1) ((Base.K B2).keeps F7.keep) (N7 _ (.head _)).1 (N7 _ (.tail _ (.head _))).1 (by k_is) (by rfl) (by simp) fun h8 tk8 es' n' he e8 sb8 => ?_
  rw [put_ini] at he
  subst he
  dsimp only
  refine wpAny_execs_nil ?_
  show Q _ _
  have kd : ∀ b o, b ≠ dx → h5.get? b = some o → h8.get? b = some o := fun b o hb e => sb8.extBut _ _ hb e
  have W3 := Went.swap W2.abv hdc2 hT2 (fun a ha => by
    obtain ⟨o, ho⟩ := tch a ha
    by_cases e : a = x
    · subst e; exact ⟨_, swapAt_mem ho⟩
    · exact ⟨_, swapAt_ne ho e⟩) kd e8
  exact ret _ _ _ ((W1.trans W2).trans W3) hbr ⟨rfl, AccIn.ini I2 W2.abv⟩
end
section -- A17
set_option maxHeartbeats 300000
theorem words_A17_1 : True := by
  k_with_none
  w_top off
  k_with "ms_enter" => ((
  (have Xᵥ := Base.K (by assumption)); (have Tᵥ := Base.T (by assumption)); revert Tᵥ; revert Xᵥ; k_fill; intro _ _
  k_dflt (refine' enterS ?k1ᵥ ?k2ᵥ ?k3ᵥ ?k4ᵥ ?k5ᵥ ?k6ᵥ ?k7ᵥ ?k8ᵥ ?k9ᵥ ?k10ᵥ ?_; (case k1ᵥ => exact Base.keeps (by assumption) (by assumption)); (case k2ᵥ => exact Room.depth (by assumption)); (case k3ᵥ => k_is); (case k4ᵥ => k_is); (case k5ᵥ => first | exact BindsTo.of_eq rfl | exact binds_K ((Base.K (by assumption)).keeps (by assumption)) rfl (by k_is) rfl rfl rfl | fail "m_enter: no rule for these arguments"); (case k6ᵥ => exact locs rfl); (case k7ᵥ => decide); (case k8ᵥ => exact rfl); (case k9ᵥ => exact rfl); (case k10ᵥ => exact rfl); k_whole; intro _ _ _ _; (try dsimp only); (try k_fold))))
  k_with "wpAt" => ((ks_step "attributeBase Call"; k_here; k_dflt (refine' a_node ?k1ᵥ ?k2ᵥ ?k3ᵥ ?k4ᵥ ?k5ᵥ ?k6ᵥ ?k7ᵥ ?k8ᵥ ?k9ᵥ ?k10ᵥ ?k11ᵥ ?k12ᵥ ?k13ᵥ ?k14ᵥ ?k15ᵥ ?k16ᵥ ?k17ᵥ ?k18ᵥ ?k19ᵥ ?k20ᵥ ?k21ᵥ ?k22ᵥ ?k23ᵥ ?_; (case k1ᵥ => k_asm); (case k2ᵥ => k_in); (case k3ᵥ => k_asm); (case k4ᵥ => exact Base.T (by assumption)); (case k5ᵥ => k_is); (case k6ᵥ => rfl); (case k7ᵥ => rfl); (case k8ᵥ => k_mem); (case k9ᵥ => k_mem); (case k10ᵥ => k_is); (case k11ᵥ => rfl); (case k12ᵥ => first | rfl | decide +kernel); (case k13ᵥ => k_is); (case k14ᵥ => k_is); (case k15ᵥ => k_is); (case k16ᵥ => k_is); (case k17ᵥ => decide); (case k18ᵥ => rfl); (case k19ᵥ => rfl); (case k20ᵥ => rfl); (case k21ᵥ => rfl); (case k22ᵥ => decide +kernel); (case k23ᵥ => first | boot_by_name | rfl | kernel_rfl); intro _ _ _ _ l1ᵥ; (try k_lt l1ᵥ)))); (try (revert l1ᵥ; intro _))
  k_with "getMethod ref" => ((k_here; k_dflt (refine' sup_methodN ?k1ᵥ ?k2ᵥ ?k3ᵥ ?k4ᵥ ?k5ᵥ ?k6ᵥ ?k7ᵥ ?k8ᵥ ?k9ᵥ ?k10ᵥ ?k11ᵥ ?k12ᵥ ?k13ᵥ ?k14ᵥ ?k15ᵥ ?_; (case k1ᵥ => k_asm); (case k2ᵥ => k_in); (case k3ᵥ => k_asm); (case k4ᵥ => k_mem); (case k5ᵥ => k_mem); (case k6ᵥ => k_is); (case k7ᵥ => ks_is); (case k8ᵥ => decide); (case k9ᵥ => exact slot_wd_get); (case k10ᵥ => exact type_llen); (case k11ᵥ => exact entry_wd_get); (case k12ᵥ => exact args_wd_get); (case k13ᵥ => exact fun a b => wd_get a b (.inl ⟨rfl, rfl⟩)); (case k14ᵥ => exact rfl); (case k15ᵥ => kernel_rfl); intro _ _ _ _ l1ᵥ; (try k_lt l1ᵥ)))); (try (revert l1ᵥ; intro _))
  k_with "getMethod ref" => ((k_here; k_dflt (refine' sup_methodN ?k1ᵥ ?k2ᵥ ?k3ᵥ ?k4ᵥ ?k5ᵥ ?k6ᵥ ?k7ᵥ ?k8ᵥ ?k9ᵥ ?k10ᵥ ?k11ᵥ ?k12ᵥ ?k13ᵥ ?k14ᵥ ?k15ᵥ ?_; (case k1ᵥ => k_asm); (case k2ᵥ => k_in); (case k3ᵥ => k_asm); (case k4ᵥ => k_mem); (case k5ᵥ => k_mem); (case k6ᵥ => k_is); (case k7ᵥ => ks_is); (case k8ᵥ => decide); (case k9ᵥ => exact slot_wd_get); (case k10ᵥ => exact type_linit); (case k11ᵥ => exact entry_wd_get); (case k12ᵥ => exact args_wd_get); (case k13ᵥ => exact fun a b => wd_get a b (.inr ⟨rfl, rfl⟩)); (case k14ᵥ => exact rfl); (case k15ᵥ => kernel_rfl); intro _ _ _ _ l1ᵥ; (try k_lt l1ᵥ)))); (try (revert l1ᵥ; intro _))
  k_with "getMethod ref" => ((k_here; k_dflt (refine' sup_methodN ?k1ᵥ ?k2ᵥ ?k3ᵥ ?k4ᵥ ?k5ᵥ ?k6ᵥ ?k7ᵥ ?k8ᵥ ?k9ᵥ ?k10ᵥ ?k11ᵥ ?k12ᵥ ?k13ᵥ ?k14ᵥ ?k15ᵥ ?_; (case k1ᵥ => k_asm); (case k2ᵥ => k_in); (case k3ᵥ => k_asm); (case k4ᵥ => k_mem); (case k5ᵥ => k_mem); (case k6ᵥ => k_is); (case k7ᵥ => ks_is); (case k8ᵥ => decide); (case k9ᵥ => exact slot_md_get); (case k10ᵥ => exact type_pop); (case k11ᵥ => exact entry_md_get); (case k12ᵥ => exact args_md_get); (case k13ᵥ => exact fun a b => md_get a b); (case k14ᵥ => exact rfl); (case k15ᵥ => kernel_rfl); intro _ _ _ _ l1ᵥ; (try k_lt l1ᵥ)))); (try (revert l1ᵥ; intro _))
  k_with "callWith ref" => ((k_here; k_dflt (refine' callWith_bnd ?k1ᵥ ?k2ᵥ ?k3ᵥ ?_; (case k1ᵥ => k_asm); (case k2ᵥ => k_mem); (case k3ᵥ => first | exact .inl rfl | exact .inr rfl))))
  k_with "getMethod ref" => ((k_here; k_dflt (refine' a_methodN ?k1ᵥ ?k2ᵥ ?k3ᵥ ?k4ᵥ ?k5ᵥ ?k6ᵥ ?k7ᵥ ?k8ᵥ ?k9ᵥ ?_; (case k1ᵥ => k_asm); (case k2ᵥ => k_in); (case k3ᵥ => k_asm); (case k4ᵥ => k_mem); (case k5ᵥ => k_mem); (case k6ᵥ => k_is); (case k7ᵥ => k_is); (case k8ᵥ => first | exact .inl rfl | exact .inr rfl); (case k9ᵥ => exact rfl))))
  k_with "getAttr ref" => ((refine' a_getN ?k1ᵥ ?k2ᵥ ?k3ᵥ ?k4ᵥ ?k5ᵥ ?_; (case k1ᵥ => k_asm); (case k2ᵥ => k_in); (case k3ᵥ => k_asm); (case k4ᵥ => k_mem); (case k5ᵥ => k_mem)))
  k_with "call ref" => ((refine unstop ?_))
  k_with "wpAt" => (((first | ks_step "execs cons" | ks_step "execs nil"); refine unstop ?_))
  trivial
theorem fn_pop (w : World) (mean : ExcName → Option Value) (mg mb : Str → Option Value) (x dx : Addr) (T : List Addr) (hT : x ∈ T) (vs : List Value) (n : Int) (parts : List (Str × Str)) (p : Str × Str) (hz : vs.length ≤ 20) :
   FnA os₀ w mean mg mb 7 181 [.ref x] T (fun more => AccIn more x dx vs n (parts ++ [p])) (fun v more more' => ∃ Tp t t', v = .ref Tp ∧ (Tp, tupS p t t') ∈ more ∧ (Tp, tupS p t t') ∈ more' ∧ AccIn more' x dx (vs.take parts.length) n parts) := by
  refine FnA.intro fun dp fr gd un g gs dr tk os Q E gb more rm B hk hzz ha hbr tch I ret => ?_
  have B2 := B.keeps (gAt_base hk ha)
  have k2 : Grows (gAt g more) g := gAt_grows
  have a2 := gAt_above ha
  have z2 : (gAt g more).objs.size ≤ g.objs.size := Nat.le_of_eq (hideAll_size _ _)
  have gk := gAt_base hk ha
  clear B hk
  walk_at "ms_enter"
  rename_i Lx hx0 F0 N0
  have N1 := News.lower F0 N0 k2 a2
  have F1 := Fr.lower F0 k2 z2
  rw [List.nil_append] at N1
  have F2 := (show Fr (gAt g more) _ _ (fun y => List.lookup y [(Str.ofString "self", Value.ref x)]) from F1)
  obtain ⟨ep, hob⟩ := I.ob
  obtain ⟨hs, tk1, t1, k1, hdc⟩ := I.dc
  have N2 := dupN (dupN N1 hdc) (.tail _ hob)
  clear N1 F1 F0 N0
  k_steps
  unfold Stop
  refine ks_wpAt_execs_cons ?_
  refine ks_wpAt_If ?_
  refine wpAt_of_wpAny ?_
  k_steps
  unfold Stop
  (rename Fr _ _ _ _ => F3); (rename News _ _ _ _ => N3)
  refine callA0 (fn_pc w mean mg mb x dx [] vs n (parts ++ [p]) hz) (Room.less (Room.deeper (d := 6) rm) (by decide)) B2 F3 N3 (more := more) (fun q hq => .tail _ (.tail _ hq)) hbr I fun v s' more' P F4 N4 hb4 g4 => ?_
  obtain ⟨⟨tv, rfl⟩, rfl⟩ := P
  generalize hn : ((parts ++ [p]).length : Int) = np
  have hnp : np ≠ 0 := by rw [← hn]; simp; omega
  clear F3 N3
  obtain ⟨h4, gs4, dr4, tk4, os4⟩ := s'
  dsimp only at F4 N4 hb4 g4
  k_steps
  unfold Stop
  refine wpAt_of_wpAny (wpAny_execs_nil ?_)
  refine ks_wpAt_execs_cons ?_
  refine ks_wpAt_Return_some ?_
  refine ks_wpAt_MethodCall ?_
  k_steps
  unfold Stop
  (rename Fr _ _ _ _ => F5); (rename News _ _ _ _ => N5)
  have hlen := I.ln
  rw [List.length_append, List.length_singleton] at hlen
  obtain ⟨Tp, tp, tp', e1, e2⟩ := I.tp parts.length p (by simp)
  have hvs : vs = vs.take parts.length ++ [.ref Tp] := by
    rw [List.getElem?_eq_some_iff] at e1
    obtain ⟨h1, h2⟩ := e1
    rw [← h2, List.take_append_getElem h1, List.take_of_length_le (by omega)]
  refine bnd_pop ((Base.K B2).keeps F5.keep) (N5 _ (.head _)).1 (N5 _ (.tail _ (.tail _ (.head _)))).1 hvs (by omega) fun h' ep' e3 sb => ?_
  show Q _ _
  have kg := gAt_kept (X := [x]) (h := h') ha (fun q hq hn => sb.extBut _ _ (by simpa using hn) (N5 q (.tail _ (.tail _ (.tail _ (.tail _ hq))))).1) (fun b o hb e => sb.extBut _ _ (by simpa using hb) (F5.keep b o e))
  refine ret _ _ _ (Went.swap (o' := acc dx (vs.take parts.length) ep') ha hob hT tch (fun b o hb e => kg b o (by simpa using hb) e) e3) hb4 ⟨Tp, tp, tp', rfl, e2, swap_keeps ⟨_, hob, by simp⟩ ha _ _ _ _ e2, AccIn.to I ha (PartsIn.split I.parts).1⟩
end
section -- A27
set_option maxHeartbeats 300000
theorem words_A27_1 : True := by
  k_with_none
  w_top off
  k_with "wpAt" => ((ks_step "attributeBase Call"; k_here; k_dflt (refine' a_node ?k1ᵥ ?k2ᵥ ?k3ᵥ ?k4ᵥ ?k5ᵥ ?k6ᵥ ?k7ᵥ ?k8ᵥ ?k9ᵥ ?k10ᵥ ?k11ᵥ ?k12ᵥ ?k13ᵥ ?k14ᵥ ?k15ᵥ ?k16ᵥ ?k17ᵥ ?k18ᵥ ?k19ᵥ ?k20ᵥ ?k21ᵥ ?k22ᵥ ?k23ᵥ ?_; (case k1ᵥ => k_asm); (case k2ᵥ => k_in); (case k3ᵥ => k_asm); (case k4ᵥ => exact Base.T (by assumption)); (case k5ᵥ => k_is); (case k6ᵥ => rfl); (case k7ᵥ => rfl); (case k8ᵥ => k_mem); (case k9ᵥ => k_mem); (case k10ᵥ => k_is); (case k11ᵥ => rfl); (case k12ᵥ => first | rfl | decide +kernel); (case k13ᵥ => k_is); (case k14ᵥ => k_is); (case k15ᵥ => k_is); (case k16ᵥ => k_is); (case k17ᵥ => decide); (case k18ᵥ => rfl); (case k19ᵥ => rfl); (case k20ᵥ => rfl); (case k21ᵥ => rfl); (case k22ᵥ => decide +kernel); (case k23ᵥ => first | boot_by_name | rfl | kernel_rfl); intro _ _ _ _ l1ᵥ; (try k_lt l1ᵥ)))); (try (revert l1ᵥ; intro _))
  k_with "getMethod ref" => ((k_here; k_dflt (refine' sup_methodN ?k1ᵥ ?k2ᵥ ?k3ᵥ ?k4ᵥ ?k5ᵥ ?k6ᵥ ?k7ᵥ ?k8ᵥ ?k9ᵥ ?k10ᵥ ?k11ᵥ ?k12ᵥ ?k13ᵥ ?k14ᵥ ?k15ᵥ ?_; (case k1ᵥ => k_asm); (case k2ᵥ => k_in); (case k3ᵥ => k_asm); (case k4ᵥ => k_mem); (case k5ᵥ => k_mem); (case k6ᵥ => k_is); (case k7ᵥ => ks_is); (case k8ᵥ => decide); (case k9ᵥ => exact slot_wd_get); (case k10ᵥ => exact type_llen); (case k11ᵥ => exact entry_wd_get); (case k12ᵥ => exact args_wd_get); (case k13ᵥ => exact fun a b => wd_get a b (.inl ⟨rfl, rfl⟩)); (case k14ᵥ => exact rfl); (case k15ᵥ => kernel_rfl); intro _ _ _ _ l1ᵥ; (try k_lt l1ᵥ)))); (try (revert l1ᵥ; intro _))
  k_with "getMethod ref" => ((k_here; k_dflt (refine' sup_methodN ?k1ᵥ ?k2ᵥ ?k3ᵥ ?k4ᵥ ?k5ᵥ ?k6ᵥ ?k7ᵥ ?k8ᵥ ?k9ᵥ ?k10ᵥ ?k11ᵥ ?k12ᵥ ?k13ᵥ ?k14ᵥ ?k15ᵥ ?_; (case k1ᵥ => k_asm); (case k2ᵥ => k_in); (case k3ᵥ => k_asm); (case k4ᵥ => k_mem); (case k5ᵥ => k_mem); (case k6ᵥ => k_is); (case k7ᵥ => ks_is); (case k8ᵥ => decide); (case k9ᵥ => exact slot_wd_get); (case k10ᵥ => exact type_linit); (case k11ᵥ => exact entry_wd_get); (case k12ᵥ => exact args_wd_get); (case k13ᵥ => exact fun a b => wd_get a b (.inr ⟨rfl, rfl⟩)); (case k14ᵥ => exact rfl); (case k15ᵥ => kernel_rfl); intro _ _ _ _ l1ᵥ; (try k_lt l1ᵥ)))); (try (revert l1ᵥ; intro _))
  k_with "getMethod ref" => ((k_here; k_dflt (refine' sup_methodN ?k1ᵥ ?k2ᵥ ?k3ᵥ ?k4ᵥ ?k5ᵥ ?k6ᵥ ?k7ᵥ ?k8ᵥ ?k9ᵥ ?k10ᵥ ?k11ᵥ ?k12ᵥ ?k13ᵥ ?k14ᵥ ?k15ᵥ ?_; (case k1ᵥ => k_asm); (case k2ᵥ => k_in); (case k3ᵥ => k_asm); (case k4ᵥ => k_mem); (case k5ᵥ => k_mem); (case k6ᵥ => k_is); (case k7ᵥ => ks_is); (case k8ᵥ => decide); (case k9ᵥ => exact slot_md_get); (case k10ᵥ => exact type_pop); (case k11ᵥ => exact entry_md_get); (case k12ᵥ => exact args_md_get); (case k13ᵥ => exact fun a b => md_get a b); (case k14ᵥ => exact rfl); (case k15ᵥ => kernel_rfl); intro _ _ _ _ l1ᵥ; (try k_lt l1ᵥ)))); (try (revert l1ᵥ; intro _))
  k_with "callWith ref" => ((k_here; k_dflt (refine' callWith_bnd ?k1ᵥ ?k2ᵥ ?k3ᵥ ?_; (case k1ᵥ => k_asm); (case k2ᵥ => k_mem); (case k3ᵥ => first | exact .inl rfl | exact .inr rfl))))
  k_with "getMethod ref" => ((k_here; k_dflt (refine' a_methodN ?k1ᵥ ?k2ᵥ ?k3ᵥ ?k4ᵥ ?k5ᵥ ?k6ᵥ ?k7ᵥ ?k8ᵥ ?k9ᵥ ?_; (case k1ᵥ => k_asm); (case k2ᵥ => k_in); (case k3ᵥ => k_asm); (case k4ᵥ => k_mem); (case k5ᵥ => k_mem); (case k6ᵥ => k_is); (case k7ᵥ => k_is); (case k8ᵥ => first | exact .inl rfl | exact .inr rfl); (case k9ᵥ => exact rfl))))
  k_with "getAttr ref" => ((refine' a_getN ?k1ᵥ ?k2ᵥ ?k3ᵥ ?k4ᵥ ?k5ᵥ ?_; (case k1ᵥ => k_asm); (case k2ᵥ => k_in); (case k3ᵥ => k_asm); (case k4ᵥ => k_mem); (case k5ᵥ => k_mem)))
  k_with "call ref" => ((refine unstop ?_))
  trivial
theorem notIn2 {a x dx : Addr} (h : @LT.lt Nat _ a dx) (h2 : @LT.lt Nat _ dx x) : a ∉ [x, dx] := fun hm => by
  rcases List.mem_cons.mp hm with e | hm
  · rw [e] at h; exact Nat.lt_irrefl _ (Nat.lt_trans h h2)
  · rw [List.mem_singleton.mp hm] at h; exact Nat.lt_irrefl _ h
/-- the entries of a _ValueFormatter's dict -/
noncomputable def vEnt (es : List DictEntry) (ml : Int) (lo x : Addr) : Prop := ∃ (h1 h2 h3 h4 h5 h6 : Int) (k1 k2 k3 k4 k5 k6 tm t2 t3 t4 : Tok), es = [⟨h1, .str (Str.ofString "_maxlen") k1, .int ml tm⟩, ⟨h2, .str (Str.ofString "_continuation_ws") k2, .str (Str.ofString " ") t2⟩, ⟨h3, .str (Str.ofString "_continuation_ws_len") k3, .int 1 t3⟩, ⟨h4, .str (Str.ofString "_splitchars") k4, .str (Str.ofString " ") t4⟩, ⟨h5, .str (Str.ofString "_lines") k5, .ref lo⟩, ⟨h6, .str (Str.ofString "_current_line") k6, .ref x⟩]
/-- a _ValueFormatter in a ledger -/
structure VIn (more : List (Addr × Obj)) (vo vd lo x : Addr) (ml : Int) (lines : List Str) : Prop where
  ob : (vo, instObj 137 vd) ∈ more
  dc : ∃ es k, (vd, dictOf es k) ∈ more ∧ vEnt es ml lo x
  ls : ∃ lvs ep, (lo, ({ cls := .type "list", data := .seq lvs.toArray ep } : Obj)) ∈ more ∧ StrsAre lvs lines
theorem words_A27_2 : True := by
  k_with "m0c_enter" => ((
  (have Xᵥ := Base.K (by assumption)); (have Tᵥ := Base.T (by assumption)); revert Tᵥ; revert Xᵥ; k_fill; intro _ _
  k_dflt (refine' enter0c ?k1ᵥ ?k2ᵥ ?k3ᵥ ?k4ᵥ ?k5ᵥ ?k6ᵥ ?k7ᵥ ?k8ᵥ ?k9ᵥ ?k10ᵥ ?_ ?k11ᵥ; (case k11ᵥ => assumption); (case k1ᵥ => exact Base.keeps (by assumption) (by assumption)); (case k2ᵥ => exact Room.depth (by assumption)); (case k3ᵥ => k_is); (case k4ᵥ => k_is); (case k5ᵥ => first | exact BindsTo.of_eq rfl | exact binds_K ((Base.K (by assumption)).keeps (by assumption)) rfl (by k_is) rfl rfl rfl | fail "m_enter: no rule for these arguments"); (case k6ᵥ => exact locs rfl); (case k7ᵥ => decide); (case k8ᵥ => exact rfl); (case k9ᵥ => exact rfl); (case k10ᵥ => exact rfl); k_whole; intro _ _ _ _; (try dsimp only); (try k_fold))))
  trivial
theorem fn_vinit (w : World) (mean : ExcName → Option Value) (mg mb : Str → Option Value) (vo vd : Addr) (T : List Addr) (hT : vd ∈ T) (ml : Int) (t0 tm t2 t3 : Tok) :
   FnAc os₀ w mean mg mb 12 78 [.ref vo, .int 0 t0, .int ml tm, .str (Str.ofString " ") t2, .str (Str.ofString " ") t3] T (fun more => more = [(vo, instObj 137 vd), (vd, dictOf [] 0)] ∧ @LT.lt Nat _ vd vo) (fun v more more' => v = .none ∧ ∃ lo x dx, VIn more' vo vd lo x ml [] ∧ AccIn more' x dx [] 0 []) := by
  refine FnAc.intro fun dp fr gd un g gs dr tk os R gb more rm B hk hzz ha hbr tch Pᵢ ret => ?_
  have hmore := Pᵢ.1
  have hlt := Pᵢ.2
  clear Pᵢ
  have B2 := B.keeps (gAt_base hk ha)
  have k2 : Grows (gAt g more) g := gAt_grows
  have a2 := gAt_above ha
  have z2 : (gAt g more).objs.size ≤ g.objs.size := Nat.le_of_eq (hideAll_size _ _)
  have gk := gAt_base hk ha
  have hQ : ∀ v s', (fun (v : Value) (s' : Shared) => R (.ok (.ret v)) s') v s' → R (.ok (.ret v)) s' := fun v s' h => h
  replace ret : ∀ v s' more', Went gb g s'.heap T more more' → Still os₀ s' → (v = .none ∧ ∃ lo x dx, VIn more' vo vd lo x ml [] ∧ AccIn more' x dx [] 0 []) → (fun (v : Value) (s' : Shared) => R (.ok (.ret v)) s') v s' := ret
  generalize (fun (v : Value) (s' : Shared) => R (.ok (.ret v)) s') = Q at hQ ret
  clear B hk
  walk_at "m0c_enter"
  rename_i Lx hx0 F0 N0
  have N1 := News.lower F0 N0 k2 a2
  have F1 := Fr.lower F0 k2 z2
  rw [List.nil_append] at N1
  have F2 := (show Fr (gAt g more) _ _ (fun y => List.lookup y [(Str.ofString "splitchars", .str (Str.ofString " ") t3), (Str.ofString "continuation_ws", .str (Str.ofString " ") t2), (Str.ofString "maxlen", Value.int ml tm), (Str.ofString "headerlen", .int 0 t0), (Str.ofString "self", Value.ref vo)]) from F1)
  have N2 : News (gAt g more) Lx hx0 [(vo, instObj 137 vd), (vd, dictOf [] 0)] := News.fewer N1 fun q hq => by rw [hmore]; exact hq
  clear N1 F1 F0 N0
  generalize tk + List.length _ = tk0
  have X2 := Base.K B2
  k_steps
  unfold Stop
  (rename Fr _ _ _ _ => F3); (rename News _ _ _ _ => N3)
  rename_i hq1 hq2 hq3 tkq hq4 lo hq5 ltq hq6
  obtain ⟨ltq1, ltq2⟩ := ltq
  have lvo : @LT.lt Nat _ vo lo := ltq1
  have lvd : @LT.lt Nat _ vd lo := ltq2
  refine wpAny_call (makeA_K (rest := [.int 0 t0]) (Nat.le_refl 1) F3 N3 (X2.keeps F3.keep) fun x dx h6 F6 N6 l6 l6' => ?_)
  have e1 : @LT.lt Nat _ lo dx := l6 _ (.head _)
  have e2 : @LT.lt Nat _ dx x := l6'
  refine fn_ainit w mean mg mb x dx [x, dx] (by simp) (by simp) 0 t0 0 0 _ _ _ (gAt g more) [(x, acc dx [] 0), (dx, emptyDict)] (Room.made (Room.less (Room.deeper (d := 11) rm) (by decide : 6 ≤ 11))) B2 F6.keep (Nat.le_of_lt (Nat.lt_of_le_of_lt F6.above F6.ns.lt)) (fun p hp => ?_) hbr (fun a ha => ?_) ⟨.head _, .tail _ (.head _)⟩ fun v s' m' W hb7 P => ?_
  · have hp' := N6 p (by
      rcases List.mem_cons.mp hp with rfl | hp
      · exact .head _
      · rw [List.mem_singleton.mp hp]; exact .tail _ (.head _))
    exact ⟨hp'.1, hp'.2.2⟩
  · rcases List.mem_cons.mp ha with rfl | ha
    · exact ⟨_, .head _⟩
    · rw [List.mem_singleton.mp ha]; exact ⟨_, .tail _ (.head _)⟩
  obtain ⟨rfl, I7⟩ := P
  refine ⟨rfl, ?_⟩
  have hpre := fun (p : Addr × Obj) hp => notIn2 (l6 p hp) e2
  have F7 := W.fr F6 (News.fewer N6 fun p hp => by
      rcases List.mem_cons.mp hp with rfl | hp
      · exact .head _
      · rw [List.mem_singleton.mp hp]; exact .tail _ (.head _))
  have N7 := W.news2 F6 (News.fewer N6 fun p hp => by
      rcases List.mem_append.mp hp with hp | hp
      · exact .tail _ (.tail _ hp)
      rcases List.mem_cons.mp hp with rfl | hp
      · exact .head _
      · rw [List.mem_singleton.mp hp]; exact .tail _ (.head _)) hpre
  obtain ⟨ep7, hob7⟩ := I7.ob
  obtain ⟨hs7, tk7, t7, k7, hdc7⟩ := I7.dc
  have N8 := dupN (dupN N7 (List.mem_append_right _ hdc7)) (.tail _ (List.mem_append_right _ hob7))
  have N9 := News.fewer N8 (ns := (x, acc dx [] ep7) :: (dx, dictOf (iniE hs7 tk7 0 t7) k7) :: _) fun p hp => by
    rcases List.mem_cons.mp hp with rfl | hp
    · exact .head _
    rcases List.mem_cons.mp hp with rfl | hp
    · exact .tail _ (.head _)
    exact .tail _ (.tail _ (List.mem_append_left _ hp))
  obtain ⟨h8, gs8, dr8, tk8, os8⟩ := s'
  dsimp only at F7 N9 hb7
  clear F3 N3 F6 N6 N7 N8 W l6 l6' hpre
  dsimp only
  k_steps
  (rename Fr _ _ _ _ => F10); (rename News _ _ _ _ => N10)
  refine ret _ _ _ (Went.fin ha gk F10 N10 (fun q h => h) (fun q hq hn => ?_) tch) hb7 ⟨rfl, lo, x, dx, ⟨.tail _ (.tail _ (.tail _ (.head _))), ⟨_, _, .tail _ (.tail _ (.tail _ (.tail _ (.head _)))), ⟨_, _, _, _, _, _, _, _, _, _, _, _, _, _, _, _, rfl⟩⟩, ⟨[], 0, .tail _ (.tail _ (.head _)), .nil⟩⟩, ⟨ep7, .head _⟩, ⟨hs7, tk7, t7, k7, .tail _ (.head _)⟩, rfl, fun j p e => by simp at e⟩
  rw [hmore] at hq
  rcases List.mem_cons.mp hq with rfl | hq
  · exact .tail _ (.tail _ (.tail _ (.head _)))
  · rw [List.mem_singleton.mp hq] at hn
    exact absurd hT hn
end
section -- A28
set_option maxHeartbeats 400000
theorem uniq {gb h : Heap} {more : List (Addr × Obj)} {a : Addr} {o o' : Obj} (A : Above gb h more) (h1 : (a, o) ∈ more) (h2 : (a, o') ∈ more) : o = o' := by
  have e1 := (A _ h1).1
  rw [(A _ h2).1] at e1
  exact (Option.some.inj e1).symm
/-- a _ValueFormatter with its _Accumulator -/
structure FS (more : List (Addr × Obj)) (vo vd lo x dx : Addr) (ml : Int) (lines : List Str) (parts : List (Str × Str)) (vs : List Value) : Prop where
  v : VIn more vo vd lo x ml lines
  a : AccIn more x dx vs 0 parts
  t : Tabs more
section
variable {gb h : Heap} {more m' : List (Addr × Obj)} {vo vd lo x dx : Addr} {ml : Int} {lines : List Str} {parts : List (Str × Str)} {vs : List Value} {n : Int}
theorem VIn.keep (I : VIn more vo vd lo x ml lines) (A : Above gb h more) (IA : AccIn more x dx vs n parts) (tb : Tabs more) {T : List Addr} (hT : ∀ a ∈ T, a ∈ [x, dx, 183, 190]) (hk : ∀ q ∈ more, q.1 ∉ T → q ∈ m') : VIn m' vo vd lo x ml lines := by
  obtain ⟨ho, ⟨es, k, hd, ve⟩, ⟨lvs, ep, hl, sa⟩⟩ := I
  obtain ⟨epx, hx⟩ := IA.ob
  obtain ⟨hs, tk, t, kd, hdx⟩ := IA.dc
  obtain ⟨⟨ps, h183, _⟩, ⟨ps', h190, _⟩⟩ := tb
  have key : ∀ q ∈ more, (∀ o, (x, o) ∈ more → q.1 = x → q.2 = o → False) → (∀ o, (dx, o) ∈ more → q.1 = dx → q.2 = o → False) → (∀ o, ((183 : Addr), o) ∈ more → q.1 = 183 → q.2 = o → False) → (∀ o, ((190 : Addr), o) ∈ more → q.1 = 190 → q.2 = o → False) → q ∈ m' := by
    intro q hq n1 n2 n3 n4
    refine hk q hq fun hm => ?_
    have hm := hT _ hm
    obtain ⟨b, o⟩ := q
    rcases List.mem_cons.mp hm with e | hm
    · dsimp only at e; subst e; exact n1 o hq rfl rfl
    rcases List.mem_cons.mp hm with e | hm
    · dsimp only at e; subst e; exact n2 o hq rfl rfl
    rcases List.mem_cons.mp hm with e | hm
    · dsimp only at e; subst e; exact n3 o hq rfl rfl
    · have e := List.mem_singleton.mp hm
      dsimp only at e; subst e; exact n4 o hq rfl rfl
  have fin : ∀ {b : Addr} {o : Obj}, (b, o) ∈ more → o ≠ acc dx vs epx → o ≠ dictOf (iniE hs tk n t) kd → (∀ ps, o ≠ tabObj ps) → (b, o) ∈ m' := by
    intro b o hm n1 n2 n3
    refine key _ hm (fun o' h1 e1 e2 => ?_) (fun o' h1 e1 e2 => ?_) (fun o' h1 e1 e2 => ?_) (fun o' h1 e1 e2 => ?_)
    · dsimp only at e1 e2; subst e1; exact n1 (uniq A hm hx)
    · dsimp only at e1 e2; subst e1; exact n2 (uniq A hm hdx)
    · dsimp only at e1 e2; subst e1; exact n3 _ (uniq A hm h183)
    · dsimp only at e1 e2; subst e1; exact n3 _ (uniq A hm h190)
  refine ⟨fin ho (by simp) (by simp) (by simp), ⟨es, k, fin hd (by simp) (fun e => ?_) (by simp), ve⟩, ⟨lvs, ep, fin hl (by simp) (by simp) (by simp), sa⟩⟩
  obtain ⟨_, _, _, _, _, _, _, _, _, _, _, _, _, _, _, _, rfl⟩ := ve
  injection e with _ _ e
  injection e with e
  have := congrArg Array.size e
  simp at this
theorem Tabs.keep (tb : Tabs more) (A : Above gb h more) {T : List Addr} (hT : ∀ a ∈ T, ∃ o, (a, o) ∈ more ∧ o.cls ≠ .none) (hk : ∀ q ∈ more, q.1 ∉ T → q ∈ m') : Tabs m' := by
  obtain ⟨⟨ps, h183, o1⟩, ⟨ps', h190, o2⟩⟩ := tb
  refine ⟨⟨ps, hk _ h183 fun hm => ?_, o1⟩, ⟨ps', hk _ h190 fun hm => ?_, o2⟩⟩
  · obtain ⟨o, ho, hc⟩ := hT _ hm
    rw [uniq A ho h183] at hc; exact hc rfl
  · obtain ⟨o, ho, hc⟩ := hT _ hm
    rw [uniq A ho h190] at hc; exact hc rfl
theorem AccIn.acls (I : AccIn more x dx vs n parts) : ∀ a ∈ [x, dx], ∃ o, (a, o) ∈ more ∧ o.cls ≠ .none := fun a ha => by
  obtain ⟨⟨ep, ho⟩, ⟨hs, tk, t, k, hd⟩, _, _⟩ := I
  rcases List.mem_cons.mp ha with rfl | ha
  · exact ⟨_, ho, by simp⟩
  · rw [List.mem_singleton.mp ha]; exact ⟨_, hd, by simp⟩
theorem FS.tch (f : FS more vo vd lo x dx ml lines parts vs) : ∀ a ∈ [x, dx, 183, 190], ∃ o, (a, o) ∈ more := fun a ha => by
  obtain ⟨_, ⟨⟨ep, ho⟩, ⟨hs, tk, t, k, hd⟩, _, _⟩, ⟨⟨ps, h183, _⟩, ⟨ps', h190, _⟩⟩⟩ := f
  rcases List.mem_cons.mp ha with rfl | ha
  · exact ⟨_, ho⟩
  rcases List.mem_cons.mp ha with rfl | ha
  · exact ⟨_, hd⟩
  rcases List.mem_cons.mp ha with rfl | ha
  · exact ⟨_, h183⟩
  · rw [List.mem_singleton.mp ha]; exact ⟨_, h190⟩
end
section
variable {w : World} {mean : ExcName → Option Value} {mg mb : Str → Option Value} {A : Around} {s : Shared} {Q E : Value → Shared → Prop} {h₀ : Heap} {L : Addr} {m : Str → Option Value} {news more : List (Addr × Obj)} {vo vd lo x dx : Addr} {ml : Int} {lines : List Str} {parts : List (Str × Str)} {vs : List Value}
/-- what stands behind a step of a _ValueFormatter -/
structure Next (os₀ : OsState) (h₀ : Heap) (L : Addr) (m : Str → Option Value) (T : List Addr) (more m' : List (Addr × Obj)) (s' : Shared) : Prop where
  F : Fr h₀ L s'.heap m
  N : News h₀ L s'.heap m'
  g : Still os₀ s'
  k : ∀ q ∈ more, q.1 ∉ T → q ∈ m'
theorem fs_push (hz : vs.length ≤ 20) {f p : Str} {tf tp : Tok} (r : Room A 5) (B : Base w mean mg mb h₀) (F : Fr h₀ L s.heap m) (N : News h₀ L s.heap news) (hs : ∀ q ∈ more, q ∈ news) (fs : FS more vo vd lo x dx ml lines parts vs) (hbr : Still os₀ s)
    (h : ∀ s' m' vs', Next os₀ h₀ L m [x] more m' s' → FS m' vo vd lo x dx ml lines (parts ++ [(f, p)]) vs' → Q .none s') : wpAny (model PySem.Challenge.rw_xo0029_01.row.prog w) A (call (.ref 165) [.ref x, .str f tf, .str p tp]) Q E s := by
  have Ab := News.above (News.fewer N hs)
  refine callA2 (fn_push w mean mg mb x dx [x] (by simp) vs 0 parts hz f p tf tp) r B F N [] more (by simp) hs (by simp) hbr (fun a ha => fs.tch a (by rw [List.mem_singleton.mp ha]; simp)) fs.a fun v s' more' m' P hk hm F' N' hb' => ?_
  obtain ⟨rfl, vs', I'⟩ := P
  rw [List.nil_append] at N'
  exact h s' m' vs' ⟨F', N', hb', hk⟩ ⟨fs.v.keep Ab fs.a fs.t (by simp) hk, I'.incl hm, fs.t.keep Ab (fun a ha => fs.a.acls a (by rw [List.mem_singleton.mp ha]; simp)) hk⟩
theorem fs_len (hz : vs.length ≤ 20) (hsz : ∀ p ∈ parts, p.1.length ≤ 8 ∧ p.2.length ≤ 8) (r : Room A 9) (B : Base w mean mg mb h₀) (F : Fr h₀ L s.heap m) (N : News h₀ L s.heap news) (hs : ∀ q ∈ more, q ∈ news) (fs : FS more vo vd lo x dx ml lines parts vs) (hbr : Still os₀ s)
    (h : ∀ s' m' t, Next os₀ h₀ L m [183] more m' s' → FS m' vo vd lo x dx ml lines parts vs → Q (.int (preFrom 0 (lenAt parts) parts.length) t) s') : wpAny (model PySem.Challenge.rw_xo0029_01.row.prog w) A (call (.builtin "len") [.ref x]) Q E s := by
  have Ab := News.above (News.fewer N hs)
  obtain ⟨ep, hob⟩ := fs.a.ob
  obtain ⟨hs1, tk1, t1, k1, hdc⟩ := fs.a.dc
  have hv16 : ∀ j : Nat, 0 ≤ lenAt parts j ∧ lenAt parts j ≤ 16 := fun j => by
    unfold lenAt
    cases e : parts[j]? with
    | none => simp
    | some p =>
      have := hsz p (List.mem_of_getElem? e)
      dsimp only; omega
  have hln := fs.a.ln
  have hle := preFrom_le (st := 0) hv16 parts.length
  refine len_K F (Base.K B) (InstAt.acc (N _ (hs _ hob)).1 (N _ (hs _ hdc)).1) (f := 188) (by kernel_rfl) (by kernel_rfl) ?_
  refine callA2 (fn_alen w mean mg mb x dx [183] (by simp) vs 0 parts hz (by omega) hsz) (Room.in1 r) B F N [] more (by simp) hs (by simp) hbr (fun a ha => fs.tch a (by rw [List.mem_singleton.mp ha]; simp)) ⟨fs.a, fs.t.1⟩ fun v s' more' m' P hk hm F' N' hb' => ?_
  obtain ⟨tv, ps', rfl, I', h', o'⟩ := P
  rw [List.nil_append] at N'
  refine ⟨⟨by omega, by omega⟩, h _ m' _ ⟨F', N', hb', hk⟩ ⟨fs.v.keep Ab fs.a fs.t (by simp) hk, I'.incl hm, ⟨⟨_, hm _ h', o'⟩, ?_⟩⟩⟩
  obtain ⟨ps, h1, o⟩ := fs.t.2
  exact ⟨ps, hk _ h1 (by simp), o⟩
theorem fs_str (hz : vs.length ≤ 20) (hsz : ∀ p ∈ parts, p.1.length ≤ 8 ∧ p.2.length ≤ 8) (r : Room A 12) (B : Base w mean mg mb h₀) (F : Fr h₀ L s.heap m) (N : News h₀ L s.heap news) (hs : ∀ q ∈ more, q ∈ news) (fs : FS more vo vd lo x dx ml lines parts vs) (hbr : Still os₀ s)
    (h : ∀ s' m' t, Next os₀ h₀ L m [190] more m' s' → FS m' vo vd lo x dx ml lines parts vs → Q (.str (catS (parts.map fun p => p.1 ++ p.2)) t) s') : wpAny (model PySem.Challenge.rw_xo0029_01.row.prog w) A (call (.type "str") [.ref x]) Q E s := by
  have Ab := News.above (News.fewer N hs)
  obtain ⟨ep, hob⟩ := fs.a.ob
  obtain ⟨hs1, tk1, t1, k1, hdc⟩ := fs.a.dc
  refine kso_call (Room.uLt (d := 10) (Room.in1 (Room.in1 r))) ((Base.K B).keeps F.keep) (InstAt.acc (N _ (hs _ hob)).1 (N _ (hs _ hdc)).1) (f := 195) (by kernel_rfl) (by kernel_rfl) ?_
  refine callA2 (fn_astr w mean mg mb x dx [190] (by simp) vs 0 parts hz hsz) (Room.in1 (Room.in1 r)) B F N [] more (by simp) hs (by simp) hbr (fun a ha => fs.tch a (by rw [List.mem_singleton.mp ha]; simp)) ⟨fs.a, fs.t.2⟩ fun v s' more' m' P hk hm F' N' hb' => ?_
  obtain ⟨tv, ps', rfl, I', h', o'⟩ := P
  rw [List.nil_append] at N'
  refine h _ m' _ ⟨F', N', hb', hk⟩ ⟨fs.v.keep Ab fs.a fs.t (by simp) hk, I'.incl hm, ⟨?_, ⟨_, hm _ h', o'⟩⟩⟩
  obtain ⟨ps, h1, o⟩ := fs.t.1
  exact ⟨ps, hk _ h1 (by simp), o⟩
theorem fs_pc (hz : vs.length ≤ 20) (r : Room A 5) (B : Base w mean mg mb h₀) (F : Fr h₀ L s.heap m) (N : News h₀ L s.heap news) (hs : ∀ q ∈ more, q ∈ news) (fs : FS more vo vd lo x dx ml lines parts vs) (hbr : Still os₀ s)
    (h : ∀ s' t, Fr h₀ L s'.heap m → News h₀ L s'.heap news → Still os₀ s' → Q (.int (parts.length : Int) t) s') : wpAny (model PySem.Challenge.rw_xo0029_01.row.prog w) A (call (.ref 218) [.ref x]) Q E s := by
  refine callA0 (fn_pc w mean mg mb x dx [] vs 0 parts hz) r B F N (more := more) hs hbr fs.a fun v s' more' P F' N' hb' g' => ?_
  obtain ⟨⟨t, rfl⟩, _⟩ := P
  exact h s' t F' N' hb'
theorem fs_pop {p : Str × Str} (hz : vs.length ≤ 20) (r : Room A 7) (B : Base w mean mg mb h₀) (F : Fr h₀ L s.heap m) (N : News h₀ L s.heap news) (hs : ∀ q ∈ more, q ∈ news) (fs : FS more vo vd lo x dx ml lines (parts ++ [p]) vs) (hbr : Still os₀ s)
    (h : ∀ s' m' vs' Tp t t', Next os₀ h₀ L m [x] more m' s' → (Tp, tupS p t t') ∈ m' → FS m' vo vd lo x dx ml lines parts vs' → Q (.ref Tp) s') : wpAny (model PySem.Challenge.rw_xo0029_01.row.prog w) A (call (.ref 181) [.ref x]) Q E s := by
  have Ab := News.above (News.fewer N hs)
  refine callA2 (fn_pop w mean mg mb x dx [x] (by simp) vs 0 parts p hz) r B F N [] more (by simp) hs (by simp) hbr (fun a ha => fs.tch a (by rw [List.mem_singleton.mp ha]; simp)) fs.a fun v s' more' m' P hk hm F' N' hb' => ?_
  obtain ⟨Tp, t, t', rfl, _, h1, I'⟩ := P
  rw [List.nil_append] at N'
  exact h s' m' _ Tp t t' ⟨F', N', hb', hk⟩ (hm _ h1) ⟨fs.v.keep Ab fs.a fs.t (by simp) hk, I'.incl hm, fs.t.keep Ab (fun a ha => fs.a.acls a (by rw [List.mem_singleton.mp ha]; simp)) hk⟩
theorem fs_reset0 (hz : vs.length ≤ 20) (r : Room A 5) (B : Base w mean mg mb h₀) (F : Fr h₀ L s.heap m) (N : News h₀ L s.heap news) (hs : ∀ q ∈ more, q ∈ news) (fs : FS more vo vd lo x dx ml lines parts vs) (hbr : Still os₀ s)
    (h : ∀ s' m', Next os₀ h₀ L m [x, dx] more m' s' → FS m' vo vd lo x dx ml lines [] [] → Q .none s') : wpAny (model PySem.Challenge.rw_xo0029_01.row.prog w) A (call (.ref 203) [.ref x]) Q E s := by
  have Ab := News.above (News.fewer N hs)
  refine callA2 (fn_reset0 w mean mg mb x dx [x, dx] (by simp) (by simp) vs 0 parts hz) r B F N [] more (by simp) hs (by simp) hbr (fun a ha => fs.tch a (by simp at ha ⊢; rcases ha with h | h <;> simp [h])) fs.a fun v s' more' m' P hk hm F' N' hb' => ?_
  obtain ⟨rfl, I'⟩ := P
  rw [List.nil_append] at N'
  exact h s' m' ⟨F', N', hb', hk⟩ ⟨fs.v.keep Ab fs.a fs.t (by simp) hk, I'.incl hm, fs.t.keep Ab fs.a.acls hk⟩
theorem fs_reset1 {yl : Addr} {us : List Value} {ps : List (Str × Str)} (hz : vs.length ≤ 20) (hz2 : us.length ≤ 20) (r : Room A 5) (B : Base w mean mg mb h₀) (F : Fr h₀ L s.heap m) (N : News h₀ L s.heap news) (hs : ∀ q ∈ more, q ∈ news) (fs : FS more vo vd lo x dx ml lines parts vs) (hyl : (yl, lst us) ∈ more) (PU : PartsIn more us ps) (hbr : Still os₀ s)
    (h : ∀ s' m', Next os₀ h₀ L m [x, dx] more m' s' → FS m' vo vd lo x dx ml lines ps us → Q .none s') : wpAny (model PySem.Challenge.rw_xo0029_01.row.prog w) A (call (.ref 203) [.ref x, .ref yl]) Q E s := by
  have Ab := News.above (News.fewer N hs)
  refine callA2 (fn_reset1 w mean mg mb x dx [x, dx] (by simp) (by simp) vs 0 parts yl us ps hz hz2) r B F N [] more (by simp) hs (by simp) hbr (fun a ha => fs.tch a (by simp at ha ⊢; rcases ha with h | h <;> simp [h])) ⟨fs.a, hyl, PU⟩ fun v s' more' m' P hk hm F' N' hb' => ?_
  obtain ⟨rfl, I'⟩ := P
  rw [List.nil_append] at N'
  exact h s' m' ⟨F', N', hb', hk⟩ ⟨fs.v.keep Ab fs.a fs.t (by simp) hk, I'.incl hm, fs.t.keep Ab fs.a.acls hk⟩
theorem fs_popf {p1 p2 : List (Str × Str)} {ti : Tok} (hz : vs.length ≤ 20) (r : Room A 5) (B : Base w mean mg mb h₀) (F : Fr h₀ L s.heap m) (N : News h₀ L s.heap news) (hs : ∀ q ∈ more, q ∈ news) (fs : FS more vo vd lo x dx ml lines (p1 ++ p2) vs) (hbr : Still os₀ s)
    (h : ∀ s' m' D, Next os₀ h₀ L m [x] more m' s' → (D, lst (vs.drop p1.length)) ∈ m' → PartsIn m' (vs.drop p1.length) p2 → FS m' vo vd lo x dx ml lines p1 (vs.take p1.length) → Q (.ref D) s') : wpAny (model PySem.Challenge.rw_xo0029_01.row.prog w) A (call (.ref 173) [.ref x, .int (p1.length : Int) ti]) Q E s := by
  have Ab := News.above (News.fewer N hs)
  refine callA2 (fn_popf w mean mg mb x dx [x] (by simp) vs 0 p1 p2 ti hz) r B F N [] more (by simp) hs (by simp) hbr (fun a ha => fs.tch a (by rw [List.mem_singleton.mp ha]; simp)) fs.a fun v s' more' m' P hk hm F' N' hb' => ?_
  obtain ⟨D, rfl, h1, P2, I'⟩ := P
  rw [List.nil_append] at N'
  exact h s' m' D ⟨F', N', hb', hk⟩ (hm _ h1) (P2.of fun _ _ _ _ h => hm _ h) ⟨fs.v.keep Ab fs.a fs.t (by simp) hk, I'.incl hm, fs.t.keep Ab (fun a ha => fs.a.acls a (by rw [List.mem_singleton.mp ha]; simp)) hk⟩
theorem fs_ows (hz : vs.length ≤ 20) (hsz : ∀ p ∈ parts, p.1.length ≤ 8 ∧ p.2.length ≤ 8) (hpos : 0 < preFrom 0 (lenAt parts) parts.length) (hsp : Txt.isspace (catS (parts.map fun p => p.1 ++ p.2)) = false) (r : Room A 14) (B : Base w mean mg mb h₀) (F : Fr h₀ L s.heap m) (N : News h₀ L s.heap news) (hs : ∀ q ∈ more, q ∈ news) (fs : FS more vo vd lo x dx ml lines parts vs) (hbr : Still os₀ s)
    (h : ∀ s' m', Next os₀ h₀ L m [183, 190] more m' s' → FS m' vo vd lo x dx ml lines parts vs → Q (.bool false) s') : wpAny (model PySem.Challenge.rw_xo0029_01.row.prog w) A (call (.ref 210) [.ref x]) Q E s := by
  have Ab := News.above (News.fewer N hs)
  refine callA2 (fn_ows w mean mg mb x dx [183, 190] (by simp) (by simp) vs parts hz hsz hpos hsp) r B F N [] more (by simp) hs (by simp) hbr (fun a ha => fs.tch a (by simp at ha ⊢; rcases ha with h | h <;> simp [h])) ⟨fs.a, fs.t⟩ fun v s' more' m' P hk hm F' N' hb' => ?_
  obtain ⟨rfl, I', ⟨ps1, h1, o1⟩, ⟨ps2, h2, o2⟩⟩ := P
  rw [List.nil_append] at N'
  exact h s' m' ⟨F', N', hb', hk⟩ ⟨fs.v.keep Ab fs.a fs.t (by simp) hk, I'.incl hm, ⟨⟨ps1, hm _ h1, o1⟩, ⟨ps2, hm _ h2, o2⟩⟩⟩
end
theorem l_append {prog : Program} {w : World} {A : Around} {E : Value → Shared → Prop} {s : Shared} {l : Addr} {vs : List Value} {ep : Nat} {v : Value} {Q : Value → Shared → Prop} (hl : s.heap.get? l = some { cls := .type "list", data := .seq vs.toArray ep }) (hz : vs.length ≤ 500)
    (h : ∀ h' ep', h'.get? l = some { cls := .type "list", data := .seq (vs ++ [v]).toArray ep' } → Heap.SameBut l s.heap h' → Q .none { s with heap := h' }) : wpAny (model prog w) A (call (.builtin "list.append") [.ref l, v]) Q E s := by
  have hsz : (1000000 : Nat) ≤ sizeLine := Nat.le_of_ble_eq_true (by decide +kernel)
  obtain ⟨ep', e⟩ : ∃ ep', Obj.mapSeq (·.push v) { cls := .type "list", data := .seq vs.toArray ep } = ({ cls := .type "list", data := .seq (vs.toArray.push v) ep' } : Obj) := ⟨_, rfl⟩
  have hT : s.TypeIs (.ref l) "list" := ⟨_, hl, rfl⟩
  refine wpAny_call_entry slot_list_append hT entry_list_append ?_ (args_list_append _ _)
  show wpAny _ _ (updateSeq l (·.push v) >>= fun _ => ret .none) _ _ s
  refine wpAny_bind (wpAny_updateSeq hl rfl (wpAny_pure ⟨.none, rfl, h _ ep' ?_ (Heap.SameBut.update ..)⟩) (by simp; omega) (by simp; omega))
  rw [Heap.get?_update_self _ hl (by rw [e]; rfl), e]
  simp
theorem strsAre_snoc {vs : List Value} {xs : List Str} (h : StrsAre vs xs) (y : Str) (t : Tok) : StrsAre (vs ++ [.str y t]) (xs ++ [y]) := by
  induction h with
  | nil => exact .cons y t .nil
  | cons z u _ ih => exact .cons z u ih
theorem fs_append {w : World} {A : Around} {E : Value → Shared → Prop} {s : Shared} {h₀ : Heap} {L vo vd lo x dx : Addr} {m : Str → Option Value} {news more : List (Addr × Obj)} {ml : Int} {lines : List Str} {parts : List (Str × Str)} {vs : List Value} {Q : Value → Shared → Prop} {y : Str} {ty : Tok} (hz : lines.length ≤ 100)
    (F : Fr h₀ L s.heap m) (N : News h₀ L s.heap news) (hs : ∀ q ∈ more, q ∈ news) (fs : FS more vo vd lo x dx ml lines parts vs) (hbr : Still os₀ s)
    (h : ∀ s' m', Next os₀ h₀ L m [lo] more m' s' → FS m' vo vd lo x dx ml (lines ++ [y]) parts vs → Q .none s') : wpAny (model PySem.Challenge.rw_xo0029_01.row.prog w) A (call (.builtin "list.append") [.ref lo, .str y ty]) Q E s := by
  have Nm := News.fewer N hs
  have Ab := News.above Nm
  obtain ⟨lvs, ep, hl, sa⟩ := fs.v.ls
  have hlen := sa.length
  refine l_append (N _ (hs _ hl)).1 (by omega) fun h' ep' e sb => ?_
  obtain ⟨F', N'⟩ := stepW F Nm hl (fun b o hb e => sb.extBut _ _ hb e) e
  have key : ∀ q ∈ more, q.2.cls ≠ .type "list" → q ∈ swapAt more lo { cls := .type "list", data := .seq (lvs ++ [Value.str y ty]).toArray ep' } := fun q hq hc => by
    obtain ⟨b, o⟩ := q
    refine swapAt_ne hq fun e => ?_
    subst e
    exact hc (by rw [uniq Ab hq hl])
  obtain ⟨⟨ho, ⟨es, k, hd, ve⟩, _⟩, ⟨⟨epx, hx⟩, ⟨hs1, tk, t, kd, hdx⟩, ln, tp⟩, ⟨ps, h183, o1⟩, ⟨ps', h190, o2⟩⟩ := fs
  refine h _ _ ⟨F', N', hbr, fun q hq hn => ?_⟩ ⟨⟨key _ ho (by simp), ⟨es, k, key _ hd (by simp), ve⟩, ⟨_, _, swapAt_mem hl, ?_⟩⟩, ⟨⟨epx, key _ hx (by simp)⟩, ⟨hs1, tk, t, kd, key _ hdx (by simp)⟩, ln, fun j p hj => ?_⟩, ⟨ps, key _ h183 (by simp), o1⟩, ⟨ps', key _ h190 (by simp), o2⟩⟩
  · obtain ⟨b, o⟩ := q
    exact swapAt_ne hq fun e => hn (by rw [e]; simp)
  · exact strsAre_snoc sa y ty
  · obtain ⟨T, a, b, e1, e2⟩ := tp j p hj
    exact ⟨T, a, b, e1, key _ e2 (by simp)⟩
/-- what a folder's entries leave open -/
structure Ents where
  h1 : Int
  h2 : Int
  h3 : Int
  h4 : Int
  h5 : Int
  h6 : Int
  k1 : Tok
  k2 : Tok
  k3 : Tok
  k4 : Tok
  k5 : Tok
  k6 : Tok
  tm : Tok
  t2 : Tok
  t3 : Tok
  t4 : Tok
  kd : Nat
  kl : Nat
  ep : Nat
  hs : Int
  tk : Tok
  t : Tok
  k : Nat
section
variable {h₀ h : Heap} {L : Addr} {more : List (Addr × Obj)} {vo vd lo x dx : Addr} {ml : Int} {lines : List Str} {parts : List (Str × Str)} {vs : List Value}
/-- the members in use, ahead of the others -/
theorem FS.dup (fs : FS more vo vd lo x dx ml lines parts vs) (N : News h₀ L h more) : ∃ (e : Ents) (lvs : List Value), StrsAre lvs lines ∧
    News h₀ L h ((lo, ({ cls := .type "list", data := .seq lvs.toArray e.kl } : Obj)) :: (vo, instObj 137 vd) :: (vd, dictOf [⟨e.h1, .str (Str.ofString "_maxlen") e.k1, .int ml e.tm⟩, ⟨e.h2, .str (Str.ofString "_continuation_ws") e.k2, .str (Str.ofString " ") e.t2⟩, ⟨e.h3, .str (Str.ofString "_continuation_ws_len") e.k3, .int 1 e.t3⟩, ⟨e.h4, .str (Str.ofString "_splitchars") e.k4, .str (Str.ofString " ") e.t4⟩, ⟨e.h5, .str (Str.ofString "_lines") e.k5, .ref lo⟩, ⟨e.h6, .str (Str.ofString "_current_line") e.k6, .ref x⟩] e.kd) :: (x, acc dx vs e.ep) :: (dx, dictOf (iniE e.hs e.tk 0 e.t) e.k) :: more) := by
  obtain ⟨es, kd, hvd, ve⟩ := fs.v.dc
  obtain ⟨h1, h2, h3, h4, h5, h6, k1', k2', k3', k4', k5', k6', tm', t2', t3', t4', rfl⟩ := ve
  obtain ⟨epx, hob⟩ := fs.a.ob
  obtain ⟨hs, tk1, t1, k1, hdc⟩ := fs.a.dc
  obtain ⟨lvs, kl, hlo, sa⟩ := fs.v.ls
  exact ⟨⟨h1, h2, h3, h4, h5, h6, k1', k2', k3', k4', k5', k6', tm', t2', t3', t4', kd, kl, epx, hs, tk1, t1, k1⟩, lvs, sa, dupN (dupN (dupN (dupN (dupN N hdc) (.tail _ hob)) (.tail _ (.tail _ hvd))) (.tail _ (.tail _ (.tail _ fs.v.ob)))) (.tail _ (.tail _ (.tail _ (.tail _ hlo))))⟩
/-- a step's outcome, the state in its parts, the ledger with what stands written out -/
theorem nextD {os₀ : OsState} {P : Shared → Prop} {m : Str → Option Value} {T : List Addr} {m₀ : List (Addr × Obj)} {s' : Shared} (fs : FS more vo vd lo x dx ml lines parts vs) (X : Next os₀ h₀ L m T m₀ more s')
    (k : ∀ h gs dr tk os (e : Ents) (lvs : List Value), Fr h₀ L h m → News h₀ L h ((lo, ({ cls := .type "list", data := .seq lvs.toArray e.kl } : Obj)) :: (vo, instObj 137 vd) :: (vd, dictOf [⟨e.h1, .str (Str.ofString "_maxlen") e.k1, .int ml e.tm⟩, ⟨e.h2, .str (Str.ofString "_continuation_ws") e.k2, .str (Str.ofString " ") e.t2⟩, ⟨e.h3, .str (Str.ofString "_continuation_ws_len") e.k3, .int 1 e.t3⟩, ⟨e.h4, .str (Str.ofString "_splitchars") e.k4, .str (Str.ofString " ") e.t4⟩, ⟨e.h5, .str (Str.ofString "_lines") e.k5, .ref lo⟩, ⟨e.h6, .str (Str.ofString "_current_line") e.k6, .ref x⟩] e.kd) :: (x, acc dx vs e.ep) :: (dx, dictOf (iniE e.hs e.tk 0 e.t) e.k) :: more) → Still os₀ ⟨h, gs, dr, tk, os⟩ → (∀ q ∈ m₀, q.1 ∉ T → q ∈ more) → P ⟨h, gs, dr, tk, os⟩) : P s' := by
  obtain ⟨F, N, g, kk⟩ := X
  obtain ⟨h, gs, dr, tk, os⟩ := s'
  obtain ⟨e, lvs, _, N⟩ := FS.dup fs N
  exact k h gs dr tk os e lvs F N g kk
end
end
section -- A29
set_option maxHeartbeats 300000
section
variable {a x dx lo : Addr}
theorem words_A29_1 : True := by
  k_with_none
  w_top off
  k_with "mn_enter" => ((
  (have Xᵥ := Base.K (by assumption)); (have Tᵥ := Base.T (by assumption)); revert Tᵥ; revert Xᵥ; k_fill; intro _ _
  k_dflt (refine' enter0 ?k1ᵥ ?k2ᵥ ?k3ᵥ ?k4ᵥ ?k5ᵥ ?k6ᵥ ?k7ᵥ ?k8ᵥ ?k9ᵥ ?k10ᵥ ?_; (case k1ᵥ => exact Base.keeps (by assumption) (by assumption)); (case k2ᵥ => exact Room.depth (by assumption)); (case k3ᵥ => k_is); (case k4ᵥ => k_is); (case k5ᵥ => first | exact BindsTo.of_eq rfl | exact binds_K ((Base.K (by assumption)).keeps (by assumption)) rfl (by k_is) rfl rfl rfl | fail "m_enter: no rule for these arguments"); (case k6ᵥ => exact locs rfl); (case k7ᵥ => decide); (case k8ᵥ => exact rfl); (case k9ᵥ => exact rfl); (case k10ᵥ => exact rfl); k_whole; intro _ _ _ _; (try dsimp only); (try k_fold))))
  k_with "wpAt" => ((ks_step "attributeBase Call"; k_here; k_dflt (refine' a_node ?k1ᵥ ?k2ᵥ ?k3ᵥ ?k4ᵥ ?k5ᵥ ?k6ᵥ ?k7ᵥ ?k8ᵥ ?k9ᵥ ?k10ᵥ ?k11ᵥ ?k12ᵥ ?k13ᵥ ?k14ᵥ ?k15ᵥ ?k16ᵥ ?k17ᵥ ?k18ᵥ ?k19ᵥ ?k20ᵥ ?k21ᵥ ?k22ᵥ ?k23ᵥ ?_; (case k1ᵥ => k_asm); (case k2ᵥ => k_in); (case k3ᵥ => k_asm); (case k4ᵥ => exact Base.T (by assumption)); (case k5ᵥ => k_is); (case k6ᵥ => rfl); (case k7ᵥ => rfl); (case k8ᵥ => k_mem); (case k9ᵥ => k_mem); (case k10ᵥ => k_is); (case k11ᵥ => rfl); (case k12ᵥ => first | rfl | decide +kernel); (case k13ᵥ => k_is); (case k14ᵥ => k_is); (case k15ᵥ => k_is); (case k16ᵥ => k_is); (case k17ᵥ => decide); (case k18ᵥ => rfl); (case k19ᵥ => rfl); (case k20ᵥ => rfl); (case k21ᵥ => rfl); (case k22ᵥ => decide +kernel); (case k23ᵥ => first | boot_by_name | rfl | kernel_rfl); intro _ _ _ _ l1ᵥ; (try k_lt l1ᵥ)))); (try (revert l1ᵥ; intro _))
  k_with "getMethod ref" => ((k_here; k_dflt (refine' sup_methodN ?k1ᵥ ?k2ᵥ ?k3ᵥ ?k4ᵥ ?k5ᵥ ?k6ᵥ ?k7ᵥ ?k8ᵥ ?k9ᵥ ?k10ᵥ ?k11ᵥ ?k12ᵥ ?k13ᵥ ?k14ᵥ ?k15ᵥ ?_; (case k1ᵥ => k_asm); (case k2ᵥ => k_in); (case k3ᵥ => k_asm); (case k4ᵥ => k_mem); (case k5ᵥ => k_mem); (case k6ᵥ => k_is); (case k7ᵥ => ks_is); (case k8ᵥ => decide); (case k9ᵥ => exact slot_wd_get); (case k10ᵥ => exact type_llen); (case k11ᵥ => exact entry_wd_get); (case k12ᵥ => exact args_wd_get); (case k13ᵥ => exact fun a b => wd_get a b (.inl ⟨rfl, rfl⟩)); (case k14ᵥ => exact rfl); (case k15ᵥ => kernel_rfl); intro _ _ _ _ l1ᵥ; (try k_lt l1ᵥ)))); (try (revert l1ᵥ; intro _))
  k_with "getMethod ref" => ((k_here; k_dflt (refine' sup_methodN ?k1ᵥ ?k2ᵥ ?k3ᵥ ?k4ᵥ ?k5ᵥ ?k6ᵥ ?k7ᵥ ?k8ᵥ ?k9ᵥ ?k10ᵥ ?k11ᵥ ?k12ᵥ ?k13ᵥ ?k14ᵥ ?k15ᵥ ?_; (case k1ᵥ => k_asm); (case k2ᵥ => k_in); (case k3ᵥ => k_asm); (case k4ᵥ => k_mem); (case k5ᵥ => k_mem); (case k6ᵥ => k_is); (case k7ᵥ => ks_is); (case k8ᵥ => decide); (case k9ᵥ => exact slot_wd_get); (case k10ᵥ => exact type_linit); (case k11ᵥ => exact entry_wd_get); (case k12ᵥ => exact args_wd_get); (case k13ᵥ => exact fun a b => wd_get a b (.inr ⟨rfl, rfl⟩)); (case k14ᵥ => exact rfl); (case k15ᵥ => kernel_rfl); intro _ _ _ _ l1ᵥ; (try k_lt l1ᵥ)))); (try (revert l1ᵥ; intro _))
  k_with "getMethod ref" => ((k_here; k_dflt (refine' sup_methodN ?k1ᵥ ?k2ᵥ ?k3ᵥ ?k4ᵥ ?k5ᵥ ?k6ᵥ ?k7ᵥ ?k8ᵥ ?k9ᵥ ?k10ᵥ ?k11ᵥ ?k12ᵥ ?k13ᵥ ?k14ᵥ ?k15ᵥ ?_; (case k1ᵥ => k_asm); (case k2ᵥ => k_in); (case k3ᵥ => k_asm); (case k4ᵥ => k_mem); (case k5ᵥ => k_mem); (case k6ᵥ => k_is); (case k7ᵥ => ks_is); (case k8ᵥ => decide); (case k9ᵥ => exact slot_md_get); (case k10ᵥ => exact type_pop); (case k11ᵥ => exact entry_md_get); (case k12ᵥ => exact args_md_get); (case k13ᵥ => exact fun a b => md_get a b); (case k14ᵥ => exact rfl); (case k15ᵥ => kernel_rfl); intro _ _ _ _ l1ᵥ; (try k_lt l1ᵥ)))); (try (revert l1ᵥ; intro _))
  k_with "callWith ref" => ((k_here; k_dflt (refine' callWith_bnd ?k1ᵥ ?k2ᵥ ?k3ᵥ ?_; (case k1ᵥ => k_asm); (case k2ᵥ => k_mem); (case k3ᵥ => first | exact .inl rfl | exact .inr rfl))))
  k_with "getMethod ref" => ((k_here; k_dflt (refine' a_methodN ?k1ᵥ ?k2ᵥ ?k3ᵥ ?k4ᵥ ?k5ᵥ ?k6ᵥ ?k7ᵥ ?k8ᵥ ?k9ᵥ ?_; (case k1ᵥ => k_asm); (case k2ᵥ => k_in); (case k3ᵥ => k_asm); (case k4ᵥ => k_mem); (case k5ᵥ => k_mem); (case k6ᵥ => k_is); (case k7ᵥ => k_is); (case k8ᵥ => first | exact .inl rfl | exact .inr rfl); (case k9ᵥ => exact rfl))))
  k_with "getAttr ref" => ((refine' a_getN ?k1ᵥ ?k2ᵥ ?k3ᵥ ?k4ᵥ ?k5ᵥ ?_; (case k1ᵥ => k_asm); (case k2ᵥ => k_in); (case k3ᵥ => k_asm); (case k4ᵥ => k_mem); (case k5ᵥ => k_mem)))
  k_with "call ref" => ((refine unstop ?_))
  k_with "call builtin:len" => ((refine unstop ?_))
  k_with "call type:str" => ((refine unstop ?_))
  trivial
theorem in1 (h : a ∈ [x]) : a ∈ [x, dx, lo, 183, 190] := by rw [List.mem_singleton.mp h]; simp
theorem in2 (h : a ∈ [x, dx]) : a ∈ [x, dx, lo, 183, 190] := by simp at h ⊢; rcases h with h | h <;> simp [h]
theorem in3 (h : a ∈ [(183 : Addr)]) : a ∈ [x, dx, lo, 183, 190] := by rw [List.mem_singleton.mp h]; simp
theorem in4 (h : a ∈ [(190 : Addr)]) : a ∈ [x, dx, lo, 183, 190] := by rw [List.mem_singleton.mp h]; simp
theorem in5 (h : a ∈ [(183 : Addr), 190]) : a ∈ [x, dx, lo, 183, 190] := by simp at h ⊢; rcases h with h | h <;> simp [h]
theorem in6 (h : a ∈ [lo]) : a ∈ [x, dx, lo, 183, 190] := by rw [List.mem_singleton.mp h]; simp
end
theorem fn_chunkA (w : World) (mean : ExcName → Option Value) (mg mb : Str → Option Value) (vo vd lo x dx : Addr) (T : List Addr) (hsub : ∀ a ∈ [x, dx, lo, 183, 190], a ∈ T) (ml : Int) (lines : List Str) (parts : List (Str × Str)) (vs : List Value) (cell : Str) (tf tc : Tok) (hz : vs.length ≤ 15) (hsz : ∀ p ∈ parts ++ [(Str.ofString " ", cell)], p.1.length ≤ 8 ∧ p.2.length ≤ 8)
   (hfit : preFrom 0 (lenAt (parts ++ [(Str.ofString " ", cell)])) (parts ++ [(Str.ofString " ", cell)]).length ≤ ml) :
   FnA os₀ w mean mg mb 20 134 [.ref vo, .str (Str.ofString " ") tf, .str cell tc] T (fun more => FS more vo vd lo x dx ml lines parts vs) (fun v _ more' => v = .none ∧ ∃ vs', FS more' vo vd lo x dx ml lines (parts ++ [(Str.ofString " ", cell)]) vs') := by
  refine FnA.intro fun dp fr gd un g gs dr tk os Q E gb more rm B hk hzz ha hbr tch fs ret => ?_
  have B2 := B.keeps (gAt_base hk ha)
  have k2 : Grows (gAt g more) g := gAt_grows
  have a2 := gAt_above ha
  have z2 : (gAt g more).objs.size ≤ g.objs.size := Nat.le_of_eq (hideAll_size _ _)
  have gk := gAt_base hk ha
  have X2 := Base.K B2
  clear B hk
  walk_at "mn_enter"
  rename_i Lx hx0 F0 N0
  have N1 := News.lower F0 N0 k2 a2
  have F1 := Fr.lower F0 k2 z2
  rw [List.nil_append] at N1
  have F2 := (show Fr (gAt g more) _ _ (fun y => List.lookup y [(Str.ofString "string", Value.str cell tc), (Str.ofString "fws", .str (Str.ofString " ") tf), (Str.ofString "self", Value.ref vo)]) from F1)
  obtain ⟨_, _, _, N2⟩ := FS.dup fs N1
  clear N1 F1 F0 N0
  generalize tk + List.length _ = tk0
  have hl0 := fs.a.ln
  k_steps
  unfold Stop
  (with_reducible rename Fr _ _ _ _ => F); (with_reducible rename News _ _ _ _ => N)
  refine fs_push (by omega) (Room.less (Room.deeper (d := 19) rm) (by decide : 5 ≤ 19)) B2 F N (fun q hq => .tail _ (.tail _ (.tail _ (.tail _ (.tail _ hq))))) fs hbr fun s' m1 vs1 X fs1 => nextD fs1 X fun h1 gs1 dr1 tk1 os1 _ _ F1 N1 hb1 kk1 => ?_
  clear X s'
  clear F N
  k_steps
  have hl1 := fs1.a.ln
  rw [List.length_append, List.length_singleton] at hl1
  unfold Stop
  (with_reducible rename Fr _ _ _ _ => F); (with_reducible rename News _ _ _ _ => N)
  refine fs_len (by omega) hsz (Room.less (Room.deeper (d := 19) rm) (by decide : 9 ≤ 19)) B2 F N (fun q hq => .tail _ (.tail _ (.tail _ (.tail _ (.tail _ hq))))) fs1 hb1 fun s' m2 t2 X fs2 => nextD fs2 X fun h2 gs2 dr2 tk2 os2 _ _ F2 N2 hb2 kk2 => ?_
  clear X s'
  clear F N
  generalize hq : preFrom 0 (lenAt (parts ++ [(Str.ofString " ", cell)])) (parts ++ [(Str.ofString " ", cell)]).length = q at *
  k_steps
  (with_reducible rename Fr _ _ _ _ => F); (with_reducible rename News _ _ _ _ => N)
  refine ret _ _ m2 (Went.fin ha gk F N (fun q hq => .tail _ (.tail _ (.tail _ (.tail _ (.tail _ hq))))) (fun q hq hn => .tail _ (.tail _ (.tail _ (.tail _ (.tail _ (kk2 q (kk1 q hq (fun h => hn (hsub _ (in1 h)))) (fun h => hn (hsub _ (in3 h))))))))) tch) hb2 ⟨rfl, _, fs2⟩
end
section -- A30
set_option maxHeartbeats 400000
/-- the first turn of a loop -/
noncomputable def FirstOf (M : Model) (A : Around) (K : Value → Shared → Prop) (x : Value) (s : Shared) : Prop :=
  wpAny M A (pyIter x) (fun it s₂ => wpAny M A (pyNext it) (fun r s₃ => ∃ v, r = some v ∧ K v s₃) (fun _ _ => False) s₂) (fun _ _ => False) s
section
variable {prog : Program} {w : World} {A : Around} {E : Value → Shared → Prop} {s : Shared} {env : Env} {h₀ : Heap} {L : Addr} {m : Str → Option Value} {news : List (Addr × Obj)}
/-- a loop that is left in its first turn -/
theorem For_brk {y : Str} {py pos : Pos} {iter : Expr} {body orelse : List Stmt} {Q : Flow → Shared → Prop}
    (h : wpAny (model prog w) A (eval iter env) (FirstOf (model prog w) A fun v s₃ => wpAny (model prog w) A (assign (.Name y py) env v) (fun _ s₄ => wpAny (model prog w) A (execs body env) (fun f s₅ => match f with | .brk => Q .next s₅ | .ret v => Q (.ret v) s₅ | _ => False) (fun _ _ => False) s₄) (fun _ _ => False) s₃) (fun _ _ => False) s)
    (hs : ∀ x, foldedSetIterable iter env x = pure x) :
    wpAny (model prog w) A (exec (.For (.Name y py) iter body orelse pos) env) Q E s := by
  refine wpAny_For (wpAny_mono h (fun x s₁ h₁ => wpAny_mono h₁ (fun it s₂ h₂ => ?_) fun _ _ z => z.elim) fun _ _ z => z.elim) hs
  refine codeAny_forLoop_any (fun k s' => k = 0 ∧ s' = s₂) ?_ 0 ⟨rfl, rfl⟩
  rintro n s' ⟨rfl, rfl⟩
  refine wpAny_mono h₂ (fun r s₃ h₃ => ?_) fun _ _ z => z.elim
  obtain ⟨v, rfl, h₃⟩ := h₃
  dsimp only
  refine wpAny_of_eq (a := ()) rfl ?_
  refine wpAny_mono h₃ (fun _ s₄ h₄ => wpAny_mono h₄ (fun f s₅ h₅ => ?_) fun _ _ z => z.elim) fun _ _ z => z.elim
  cases f with
  | next => exact h₅.elim
  | cont => exact h₅.elim
  | brk => exact h₅
  | ret v => exact h₅
theorem first_walks {n : Nat} {P : Nat → Value → Prop} {St : Nat → Heap → Prop} {K : Value → Shared → Prop} {o : Obj} (F : Fr h₀ L s.heap m) (N : News h₀ L s.heap news) (W : Walks prog w A s.heap.objs.size [s.heap.objs.size] [s.heap.objs.size] n P St) (hn : 0 < n) (hst : St 0 (s.heap.push o))
    (h : ∀ h' tk v, P 0 v → Fr h₀ L h' m → News h₀ L h' news → K v { s with heap := h', toks := tk }) :
    wpAny (model prog w) A (pyNext (.ref s.heap.objs.size)) (fun r s₃ => ∃ v, r = some v ∧ K v s₃) (fun _ _ => False) { s with heap := s.heap.push o } := by
  refine W.item 0 _ _ _ hn hst fun v h' tk hP _ k => ⟨v, rfl, h h' tk v hP ?_ ?_⟩
  · obtain ⟨oL, es, ep, hL, r⟩ := F.ns
    have lt : ∀ b o, s.heap.get? b = some o → h'.get? b = some o := fun b o e => k b o (by simp; exact Nat.ne_of_lt (Heap.lt_size e)) (Heap.get?_push_of_some _ e)
    exact ⟨⟨oL, es, ep, lt _ _ hL, r⟩, fun b o e => lt b o (F.keep b o e), F.above⟩
  · exact N.grown fun b o e => k b o (by simp; exact Nat.ne_of_lt (Heap.lt_size e)) (Heap.get?_push_of_some _ e)
theorem first_str {x : Str} {t : Tok} {c : Nat} {K : Value → Shared → Prop} (hh : A.handled = none) (F : Fr h₀ L s.heap m) (N : News h₀ L s.heap news) (hc : x.cps[0]? = some c)
    (h : ∀ h' tk u, Fr h₀ L h' m → News h₀ L h' news → K (.str ⟨#[c]⟩ u) { s with heap := h', toks := tk }) : FirstOf (model prog w) A K (.str x t) s := by
  refine wpAny_pyIter_str fun o St W hst => first_walks F N (W A hh) (by have := Array.getElem?_eq_some_iff.mp hc; obtain ⟨z, _⟩ := this; exact z) hst fun h' tk v hP F' N' => ?_
  obtain ⟨c', u, e, rfl⟩ := hP
  rw [hc] at e
  cases e
  exact h h' tk u F' N'
theorem first_range {r : Addr} {a b c : Int} {t u v : Tok} {n : Nat} {K : Value → Shared → Prop} (hh : A.handled = none) (F : Fr h₀ L s.heap m) (N : News h₀ L s.heap news) (hr : IsRange s.heap r a b c t u v) (hsm : Builtin.Range.small a b c = true) (hn : Builtin.Range.rangeSize a b c = ((n : Nat) : Int)) (hn0 : 0 < n)
    (h : ∀ h' tk u, Fr h₀ L h' m → News h₀ L h' news → K (.int a u) { s with heap := h', toks := tk }) : FirstOf (model prog w) A K (.ref r) s := by
  refine wpAny_pyIter_range hr hsm ?_
  rw [hn]
  refine first_walks F N (Walks.range hh _ a c n) hn0 ?_ fun h' tk v hP F' N' => ?_
  · show IsRangeIter _ _ _ _ _
    have e1 : a + ((0 : Nat) : Int) * c = a := by simp
    have e2 : ((n : Nat) : Int) - ((0 : Nat) : Int) = n := by simp
    rw [e1, e2]
    exact Heap.get?_push_size _ rfl
  · obtain ⟨u, rfl⟩ := hP
    have e1 : a + ((0 : Nat) : Int) * c = a := by simp
    rw [e1]
    exact h h' tk u F' N'
end
end
section -- A31
set_option maxHeartbeats 1600000
theorem words_A31_1 : True := by
  k_with_none
  w_top off
  k_with "mn_enter" => ((
  (have Xᵥ := Base.K (by assumption)); (have Tᵥ := Base.T (by assumption)); revert Tᵥ; revert Xᵥ; k_fill; intro _ _
  k_dflt (refine' enter0 ?k1ᵥ ?k2ᵥ ?k3ᵥ ?k4ᵥ ?k5ᵥ ?k6ᵥ ?k7ᵥ ?k8ᵥ ?k9ᵥ ?k10ᵥ ?_; (case k1ᵥ => exact Base.keeps (by assumption) (by assumption)); (case k2ᵥ => exact Room.depth (by assumption)); (case k3ᵥ => k_is); (case k4ᵥ => k_is); (case k5ᵥ => first | exact BindsTo.of_eq rfl | exact binds_K ((Base.K (by assumption)).keeps (by assumption)) rfl (by k_is) rfl rfl rfl | fail "m_enter: no rule for these arguments"); (case k6ᵥ => exact locs rfl); (case k7ᵥ => decide); (case k8ᵥ => exact rfl); (case k9ᵥ => exact rfl); (case k10ᵥ => exact rfl); k_whole; intro _ _ _ _; (try dsimp only); (try k_fold))))
  k_with "wpAt" => ((ks_step "attributeBase Call"; k_here; k_dflt (refine' a_node ?k1ᵥ ?k2ᵥ ?k3ᵥ ?k4ᵥ ?k5ᵥ ?k6ᵥ ?k7ᵥ ?k8ᵥ ?k9ᵥ ?k10ᵥ ?k11ᵥ ?k12ᵥ ?k13ᵥ ?k14ᵥ ?k15ᵥ ?k16ᵥ ?k17ᵥ ?k18ᵥ ?k19ᵥ ?k20ᵥ ?k21ᵥ ?k22ᵥ ?k23ᵥ ?_; (case k1ᵥ => k_asm); (case k2ᵥ => k_in); (case k3ᵥ => k_asm); (case k4ᵥ => exact Base.T (by assumption)); (case k5ᵥ => k_is); (case k6ᵥ => rfl); (case k7ᵥ => rfl); (case k8ᵥ => k_mem); (case k9ᵥ => k_mem); (case k10ᵥ => k_is); (case k11ᵥ => rfl); (case k12ᵥ => first | rfl | decide +kernel); (case k13ᵥ => k_is); (case k14ᵥ => k_is); (case k15ᵥ => k_is); (case k16ᵥ => k_is); (case k17ᵥ => decide); (case k18ᵥ => rfl); (case k19ᵥ => rfl); (case k20ᵥ => rfl); (case k21ᵥ => rfl); (case k22ᵥ => decide +kernel); (case k23ᵥ => first | boot_by_name | rfl | kernel_rfl); intro _ _ _ _ l1ᵥ; (try k_lt l1ᵥ)))); (try (revert l1ᵥ; intro _))
  k_with "getMethod ref" => ((k_here; k_dflt (refine' sup_methodN ?k1ᵥ ?k2ᵥ ?k3ᵥ ?k4ᵥ ?k5ᵥ ?k6ᵥ ?k7ᵥ ?k8ᵥ ?k9ᵥ ?k10ᵥ ?k11ᵥ ?k12ᵥ ?k13ᵥ ?k14ᵥ ?k15ᵥ ?_; (case k1ᵥ => k_asm); (case k2ᵥ => k_in); (case k3ᵥ => k_asm); (case k4ᵥ => k_mem); (case k5ᵥ => k_mem); (case k6ᵥ => k_is); (case k7ᵥ => ks_is); (case k8ᵥ => decide); (case k9ᵥ => exact slot_wd_get); (case k10ᵥ => exact type_llen); (case k11ᵥ => exact entry_wd_get); (case k12ᵥ => exact args_wd_get); (case k13ᵥ => exact fun a b => wd_get a b (.inl ⟨rfl, rfl⟩)); (case k14ᵥ => exact rfl); (case k15ᵥ => kernel_rfl); intro _ _ _ _ l1ᵥ; (try k_lt l1ᵥ)))); (try (revert l1ᵥ; intro _))
  k_with "getMethod ref" => ((k_here; k_dflt (refine' sup_methodN ?k1ᵥ ?k2ᵥ ?k3ᵥ ?k4ᵥ ?k5ᵥ ?k6ᵥ ?k7ᵥ ?k8ᵥ ?k9ᵥ ?k10ᵥ ?k11ᵥ ?k12ᵥ ?k13ᵥ ?k14ᵥ ?k15ᵥ ?_; (case k1ᵥ => k_asm); (case k2ᵥ => k_in); (case k3ᵥ => k_asm); (case k4ᵥ => k_mem); (case k5ᵥ => k_mem); (case k6ᵥ => k_is); (case k7ᵥ => ks_is); (case k8ᵥ => decide); (case k9ᵥ => exact slot_wd_get); (case k10ᵥ => exact type_linit); (case k11ᵥ => exact entry_wd_get); (case k12ᵥ => exact args_wd_get); (case k13ᵥ => exact fun a b => wd_get a b (.inr ⟨rfl, rfl⟩)); (case k14ᵥ => exact rfl); (case k15ᵥ => kernel_rfl); intro _ _ _ _ l1ᵥ; (try k_lt l1ᵥ)))); (try (revert l1ᵥ; intro _))
  k_with "getMethod ref" => ((k_here; k_dflt (refine' sup_methodN ?k1ᵥ ?k2ᵥ ?k3ᵥ ?k4ᵥ ?k5ᵥ ?k6ᵥ ?k7ᵥ ?k8ᵥ ?k9ᵥ ?k10ᵥ ?k11ᵥ ?k12ᵥ ?k13ᵥ ?k14ᵥ ?k15ᵥ ?_; (case k1ᵥ => k_asm); (case k2ᵥ => k_in); (case k3ᵥ => k_asm); (case k4ᵥ => k_mem); (case k5ᵥ => k_mem); (case k6ᵥ => k_is); (case k7ᵥ => ks_is); (case k8ᵥ => decide); (case k9ᵥ => exact slot_md_get); (case k10ᵥ => exact type_pop); (case k11ᵥ => exact entry_md_get); (case k12ᵥ => exact args_md_get); (case k13ᵥ => exact fun a b => md_get a b); (case k14ᵥ => exact rfl); (case k15ᵥ => kernel_rfl); intro _ _ _ _ l1ᵥ; (try k_lt l1ᵥ)))); (try (revert l1ᵥ; intro _))
  k_with "callWith ref" => ((k_here; k_dflt (refine' callWith_bnd ?k1ᵥ ?k2ᵥ ?k3ᵥ ?_; (case k1ᵥ => k_asm); (case k2ᵥ => k_mem); (case k3ᵥ => first | exact .inl rfl | exact .inr rfl))))
  k_with "getMethod ref" => ((k_here; k_dflt (refine' a_methodN ?k1ᵥ ?k2ᵥ ?k3ᵥ ?k4ᵥ ?k5ᵥ ?k6ᵥ ?k7ᵥ ?k8ᵥ ?k9ᵥ ?_; (case k1ᵥ => k_asm); (case k2ᵥ => k_in); (case k3ᵥ => k_asm); (case k4ᵥ => k_mem); (case k5ᵥ => k_mem); (case k6ᵥ => k_is); (case k7ᵥ => k_is); (case k8ᵥ => first | exact .inl rfl | exact .inr rfl); (case k9ᵥ => exact rfl))))
  k_with "getAttr ref" => ((refine' a_getN ?k1ᵥ ?k2ᵥ ?k3ᵥ ?k4ᵥ ?k5ᵥ ?_; (case k1ᵥ => k_asm); (case k2ᵥ => k_in); (case k3ᵥ => k_asm); (case k4ᵥ => k_mem); (case k5ᵥ => k_mem)))
  k_with "call ref" => ((refine unstop ?_))
  k_with "call builtin:len" => ((refine unstop ?_))
  k_with "call type:str" => ((refine unstop ?_))
  k_with "exec For" => ((refine For_brk ?_ (by intro _; rfl)))
  trivial
theorem range_down (n : Nat) (h : n ≤ 100) : Builtin.Range.small (n : Int) 0 (-1) = true ∧ Builtin.Range.rangeSize (n : Int) 0 (-1) = ((n : Nat) : Int) := by
  have key : ∀ n : Fin 101, (Builtin.Range.small ((n.1 : Nat) : Int) 0 (-1) && Builtin.Range.rangeSize ((n.1 : Nat) : Int) 0 (-1) == ((n.1 : Nat) : Int)) = true := by decide +kernel
  have := key ⟨n, by omega⟩
  simp only [Bool.and_eq_true, beq_iff_eq] at this
  exact this
section
variable {prog : Program} {w' w : World} {A : Around} {E : Value → Shared → Prop} {s : Shared} {x dx L : Addr} {vs zs : List Value} {ep : Nat} {h₀ : Heap} {m : Str → Option Value} {news : List (Addr × Obj)}
theorem a_itemN {value slice : Expr} {k : Int} {t : Tok} {v : Value} {Q : Value → Shared → Prop} (F : Fr h₀ L s.heap m) (X : (hd.heap_1 w'.params).In h₀) (N : News h₀ L s.heap news) (hx : (x, acc dx vs ep) ∈ news) (h0 : 0 ≤ k) (hfit : k < 2 ^ 63) (hv : vs[k.toNat]? = some v) (h : Q v s)
    (hs : subscripted slice false (.ref x) (.int k t) = operate [.ref x, .int k t] (getItem (.ref x) (.int k t))) (ht : ∀ r, letTemporaryGo value (.ref x) r = pure ()) :
    wpAny (model prog w) A (subscriptTail value slice (.ref x) (.int k t)) Q E s :=
  a_subTail (X.keeps F.keep) (N _ hx).1 (a_getitem (X.keeps F.keep) (N _ hx).1 h0 hfit hv h) hs ht
end
theorem words_A31_2 : True := by
  k_with "subscriptTail" => ((k_here; k_dflt (refine' a_itemN ?Fᵥ ?Xᵥ ?Nᵥ ?lᵥ ?pᵥ ?qᵥ ?eᵥ ?_ ?sᵥ ?tᵥ; (case Fᵥ => k_asm); (case Xᵥ => k_in); (case Nᵥ => k_asm); (case lᵥ => k_mem); (case pᵥ => omega); (case qᵥ => omega); (case eᵥ => assumption); (case sᵥ => with_unfolding_all rfl); (case tᵥ => (intro _; with_unfolding_all rfl)))))
  trivial
theorem keepO {gb h : Heap} {T : List Addr} {more m' : List (Addr × Obj)} {b : Addr} {o : Obj} (A : Above gb h more) (kk : ∀ q ∈ more, q.1 ∉ T → q ∈ m') (hm : (b, o) ∈ more) (hT : ∀ a ∈ T, ∃ o', (a, o') ∈ more ∧ o' ≠ o) : (b, o) ∈ m' :=
  kk _ hm fun h => by
    obtain ⟨o', h1, h2⟩ := hT _ h
    exact h2 (uniq A h1 hm)
theorem parts_notStr {more : List (Addr × Obj)} {us : List Value} {ps : List (Str × Str)} {lines : List Str} (P : PartsIn more us ps) (h0 : 0 < ps.length) (S : StrsAre us lines) : False := by
  obtain ⟨T, t, t', h1, _⟩ := P.tp 0 ps[0] (List.getElem?_eq_getElem h0)
  cases S with
  | nil => cases h1
  | cons y t S => cases h1
theorem words_A31_3 : True := by
  k_with "call builtin:list.append" => ((refine unstop ?_))
  trivial
theorem fn_chunkB (w : World) (mean : ExcName → Option Value) (mg mb : Str → Option Value) (vo vd lo x dx : Addr) (T : List Addr) (hsub : ∀ a ∈ [x, dx, lo, 183, 190], a ∈ T) (ml : Int) (lines : List Str) (parts : List (Str × Str)) (vs : List Value) (cell : Str) (tf tc : Tok) (hz : vs.length ≤ 15) (hlz : lines.length ≤ 50) (hp0 : 1 ≤ parts.length) (hsz : ∀ p ∈ parts ++ [(Str.ofString " ", cell)], p.1.length ≤ 8 ∧ p.2.length ≤ 8)
   (hfit : ml < preFrom 0 (lenAt (parts ++ [(Str.ofString " ", cell)])) (parts ++ [(Str.ofString " ", cell)]).length) :
   FnA os₀ w mean mg mb 20 134 [.ref vo, .str (Str.ofString " ") tf, .str cell tc] T (fun more => FS more vo vd lo x dx ml lines parts vs) (fun v _ more' => v = .none ∧ ∃ vs', FS more' vo vd lo x dx ml (lines ++ [catS (parts.map fun p => p.1 ++ p.2)]) [(Str.ofString " ", cell)] vs') := by
  refine FnA.intro fun dp fr gd un g gs dr tk os Q E gb more rm B hk hzz ha hbr tch fs ret => ?_
  have B2 := B.keeps (gAt_base hk ha)
  have k2 : Grows (gAt g more) g := gAt_grows
  have a2 := gAt_above ha
  have z2 : (gAt g more).objs.size ≤ g.objs.size := Nat.le_of_eq (hideAll_size _ _)
  have gk := gAt_base hk ha
  have X2 := Base.K B2
  clear B hk
  walk_at "mn_enter"
  rename_i Lx hx0 F0 N0
  have N1 := News.lower F0 N0 k2 a2
  have F1 := Fr.lower F0 k2 z2
  rw [List.nil_append] at N1
  have F2 := (show Fr (gAt g more) _ _ (fun y => List.lookup y [(Str.ofString "string", Value.str cell tc), (Str.ofString "fws", .str (Str.ofString " ") tf), (Str.ofString "self", Value.ref vo)]) from F1)
  obtain ⟨_, _, _, N2⟩ := FS.dup fs N1
  clear N1 F1 F0 N0
  generalize tk + List.length _ = tk0
  have hl0 := fs.a.ln
  k_steps
  unfold Stop
  (with_reducible rename Fr _ _ _ _ => F); (with_reducible rename News _ _ _ _ => N)
  refine fs_push (by omega) (Room.less (Room.deeper (d := 19) rm) (by decide : 5 ≤ 19)) B2 F N (fun q hq => .tail _ (.tail _ (.tail _ (.tail _ (.tail _ hq))))) fs hbr fun s' m1 vs1 X fs1 => nextD fs1 X fun h1 gs1 dr1 tk1 os1 _ _ F1 N1 hb1 kk1 => ?_
  clear X s'
  clear F N
  k_steps
  have hl1 := fs1.a.ln
  rw [List.length_append, List.length_singleton] at hl1
  unfold Stop
  (with_reducible rename Fr _ _ _ _ => F); (with_reducible rename News _ _ _ _ => N)
  refine fs_len (by omega) hsz (Room.less (Room.deeper (d := 19) rm) (by decide : 9 ≤ 19)) B2 F N (fun q hq => .tail _ (.tail _ (.tail _ (.tail _ (.tail _ hq))))) fs1 hb1 fun s' m2 t2 X fs2 => nextD fs2 X fun h2 gs2 dr2 tk2 os2 _ _ F2 N2 hb2 kk2 => ?_
  clear X s'
  clear F N
  generalize hq : preFrom 0 (lenAt (parts ++ [(Str.ofString " ", cell)])) (parts ++ [(Str.ofString " ", cell)]).length = q at *
  k_steps
  (with_reducible rename Fr _ _ _ _ => F); (with_reducible rename News _ _ _ _ => N)
  refine first_str (c := 32) rfl F N (by rfl) fun h3 tk3 u3 F3 N3 => ?_
  clear F N
  dsimp only
  k_steps
  unfold Stop
  (with_reducible rename Fr _ _ _ _ => F); (with_reducible rename News _ _ _ _ => N)
  refine fs_pc (by omega) (Room.less (Room.deeper (d := 19) rm) (by decide : 5 ≤ 19)) B2 F N (fun q hq => .tail _ (.tail _ (.tail _ (.tail _ (.tail _ hq))))) fs2 hb2 fun s' t4 F4 N4 hb4 => ?_
  obtain ⟨h4, gs4, dr4, tk4, os4⟩ := s'
  dsimp only at F4 N4 hb4
  clear F N
  have hpl : ((parts ++ [(Str.ofString " ", cell)]).length : Int) = (parts.length : Int) + 1 := by simp
  rw [hpl]
  generalize hi : (parts.length : Int) = i
  k_steps
  (with_reducible rename Fr _ _ _ _ => F); (with_reducible rename News _ _ _ _ => N); (with_reducible rename IsRange _ _ _ _ _ _ _ _ => R)
  have e9 : i + 1 - 1 = ((parts.length : Nat) : Int) := by omega
  rw [e9] at R
  have hrd := range_down parts.length (by omega)
  obtain ⟨Tp, tp, tp', hv9, hT9⟩ := fs2.a.tp parts.length (Str.ofString " ", cell) (by simp)
  have hv8 : vs1[i.toNat]? = some (.ref Tp) := by rw [← hi]; exact hv9
  have hi0 : 0 ≤ i := by omega
  have hi1 : i < 100 := by omega
  have hit : (Txt.item (Str.ofString " ") 0 == Str.ofString " ") = true := by decide +kernel
  refine first_range rfl F (dupN N (.tail _ (.tail _ (.tail _ (.tail _ (.tail _ hT9))))) : News _ _ _ ((Tp, { cls := .type "tuple", data := .seq #[.str (Str.ofString " ") tp, .str cell tp'] }) :: _)) R hrd.1 hrd.2 hp0 fun h5 tk5 u5 F5 N5 => ?_
  clear F N R
  dsimp only
  rw [hi]
  k_steps
  unfold Stop
  (with_reducible rename Fr _ _ _ _ => F); (with_reducible rename News _ _ _ _ => N)
  subst hi
  refine fs_popf (p1 := parts) (p2 := [(Str.ofString " ", cell)]) (by omega) (Room.less (Room.deeper (d := 19) rm) (by decide : 5 ≤ 19)) B2 F N (fun q hq => .tail _ (.tail _ (.tail _ (.tail _ (.tail _ (.tail _ hq)))))) fs2 hb4 fun s' m6 D X hD PD fs6 => nextD fs6 X fun h6 gs6 dr6 tk6 os6 _ _ F6 N6 hb6 kk6 => ?_
  clear X s'
  clear F N
  k_steps
  unfold Stop
  (with_reducible rename Fr _ _ _ _ => F); (with_reducible rename News _ _ _ _ => N)
  have A6 := News.above (News.fewer N (ns := m6) fun q hq => .tail _ (.tail _ (.tail _ (.tail _ (.tail _ hq)))))
  refine fs_str (by rw [List.length_take]; omega) (fun p hp => hsz p (List.mem_append_left _ hp)) (Room.less (Room.deeper (d := 19) rm) (by decide : 12 ≤ 19)) B2 F N (fun q hq => .tail _ (.tail _ (.tail _ (.tail _ (.tail _ hq))))) fs6 hb6 fun s' m7 t7 X fs7 => nextD fs7 X fun h7 gs7 dr7 tk7 os7 _ _ F7 N7 hb7 kk7 => ?_
  clear X s'
  clear F N
  k_steps
  unfold Stop
  (with_reducible rename Fr _ _ _ _ => F); (with_reducible rename News _ _ _ _ => N)
  have A7 := News.above (News.fewer N (ns := m7) fun q hq => .tail _ (.tail _ (.tail _ (.tail _ (.tail _ hq)))))
  have tab6 : ∀ {o : Obj}, o.cls ≠ .none → ∀ a ∈ [(190 : Addr)], ∃ o', (a, o') ∈ m6 ∧ o' ≠ o := fun hc a ha => by
    obtain ⟨ps, h1, _⟩ := fs6.t.2
    rw [List.mem_singleton.mp ha]
    exact ⟨_, h1, fun e => hc (by rw [← e])⟩
  have hD7 := keepO A6 kk7 hD (tab6 (by simp))
  have PD7 := PD.of fun _ _ _ _ h => keepO A6 kk7 h (tab6 (by simp))
  refine fs_append (by omega) F N (fun q hq => .tail _ (.tail _ (.tail _ (.tail _ (.tail _ hq))))) fs7 hb7 fun s' m8 X fs8 => nextD fs8 X fun h8 gs8 dr8 tk8 os8 _ _ F8 N8 hb8 kk8 => ?_
  clear X s'
  clear F N
  k_steps
  unfold Stop
  (with_reducible rename Fr _ _ _ _ => F); (with_reducible rename News _ _ _ _ => N)
  obtain ⟨lvs, kl, hlo, sa⟩ := fs7.v.ls
  have hD8 := keepO A7 kk8 hD7 fun a ha => by
    rw [List.mem_singleton.mp ha]
    refine ⟨_, hlo, fun e => ?_⟩
    injection e with _ _ e
    injection e with e
    have e : lvs = vs1.drop parts.length := by simpa using congrArg Array.toList e
    exact parts_notStr PD7 (by simp) (e ▸ sa)
  have PD8 := PD7.of fun _ _ _ _ h => keepO A7 kk8 h fun a ha => by
    rw [List.mem_singleton.mp ha]
    exact ⟨_, hlo, by simp⟩
  refine fs_reset1 (by rw [List.length_take]; omega) (by rw [List.length_drop]; omega) (Room.less (Room.deeper (d := 19) rm) (by decide : 5 ≤ 19)) B2 F N (fun q hq => .tail _ (.tail _ (.tail _ (.tail _ (.tail _ hq))))) fs8 hD8 PD8 hb8 fun s' m9 X fs9 => ?_
  obtain ⟨F9, N9, hb9, kk9⟩ := X
  obtain ⟨h9, gs9, dr9, tk9, os9⟩ := s'
  dsimp only at F9 N9 hb9
  clear F N
  k_steps
  (with_reducible rename Fr _ _ _ _ => F); (with_reducible rename News _ _ _ _ => N)
  refine ret _ _ m9 (Went.fin ha gk F N (fun q hq => hq) (fun q hq hn => kk9 q (kk8 q (kk7 q (kk6 q (kk2 q (kk1 q hq (fun h => hn (hsub _ (in1 h)))) (fun h => hn (hsub _ (in3 h)))) (fun h => hn (hsub _ (in1 h)))) (fun h => hn (hsub _ (in4 h)))) (fun h => hn (hsub _ (in6 h)))) (fun h => hn (hsub _ (in2 h)))) tch) hb9 ⟨rfl, _, fs9⟩
end
section -- A33
set_option maxHeartbeats 300000
section
variable {prog : Program} {w' w : World} {A : Around} {E : Value → Shared → Prop} {s : Shared} {x dx f : Addr} {vs : List Value} {ep : Nat} {es : List DictEntry} {n : Nat} {name : Str} {env : Env} {K : Frag}
/-- a method of an _Accumulator, bound -/
theorem words_A33_1 : True := by
  k_with_none
  w_top off
  k_with "wpAt" => ((ks_step "attributeBase Call"; k_here; k_dflt (refine' a_node ?k1ᵥ ?k2ᵥ ?k3ᵥ ?k4ᵥ ?k5ᵥ ?k6ᵥ ?k7ᵥ ?k8ᵥ ?k9ᵥ ?k10ᵥ ?k11ᵥ ?k12ᵥ ?k13ᵥ ?k14ᵥ ?k15ᵥ ?k16ᵥ ?k17ᵥ ?k18ᵥ ?k19ᵥ ?k20ᵥ ?k21ᵥ ?k22ᵥ ?k23ᵥ ?_; (case k1ᵥ => k_asm); (case k2ᵥ => k_in); (case k3ᵥ => k_asm); (case k4ᵥ => exact Base.T (by assumption)); (case k5ᵥ => k_is); (case k6ᵥ => rfl); (case k7ᵥ => rfl); (case k8ᵥ => k_mem); (case k9ᵥ => k_mem); (case k10ᵥ => k_is); (case k11ᵥ => rfl); (case k12ᵥ => first | rfl | decide +kernel); (case k13ᵥ => k_is); (case k14ᵥ => k_is); (case k15ᵥ => k_is); (case k16ᵥ => k_is); (case k17ᵥ => decide); (case k18ᵥ => rfl); (case k19ᵥ => rfl); (case k20ᵥ => rfl); (case k21ᵥ => rfl); (case k22ᵥ => decide +kernel); (case k23ᵥ => first | boot_by_name | rfl | kernel_rfl); intro _ _ _ _ l1ᵥ; (try k_lt l1ᵥ)))); (try (revert l1ᵥ; intro _))
  k_with "getMethod ref" => ((k_here; k_dflt (refine' sup_methodN ?k1ᵥ ?k2ᵥ ?k3ᵥ ?k4ᵥ ?k5ᵥ ?k6ᵥ ?k7ᵥ ?k8ᵥ ?k9ᵥ ?k10ᵥ ?k11ᵥ ?k12ᵥ ?k13ᵥ ?k14ᵥ ?k15ᵥ ?_; (case k1ᵥ => k_asm); (case k2ᵥ => k_in); (case k3ᵥ => k_asm); (case k4ᵥ => k_mem); (case k5ᵥ => k_mem); (case k6ᵥ => k_is); (case k7ᵥ => ks_is); (case k8ᵥ => decide); (case k9ᵥ => exact slot_wd_get); (case k10ᵥ => exact type_llen); (case k11ᵥ => exact entry_wd_get); (case k12ᵥ => exact args_wd_get); (case k13ᵥ => exact fun a b => wd_get a b (.inl ⟨rfl, rfl⟩)); (case k14ᵥ => exact rfl); (case k15ᵥ => kernel_rfl); intro _ _ _ _ l1ᵥ; (try k_lt l1ᵥ)))); (try (revert l1ᵥ; intro _))
  k_with "getMethod ref" => ((k_here; k_dflt (refine' sup_methodN ?k1ᵥ ?k2ᵥ ?k3ᵥ ?k4ᵥ ?k5ᵥ ?k6ᵥ ?k7ᵥ ?k8ᵥ ?k9ᵥ ?k10ᵥ ?k11ᵥ ?k12ᵥ ?k13ᵥ ?k14ᵥ ?k15ᵥ ?_; (case k1ᵥ => k_asm); (case k2ᵥ => k_in); (case k3ᵥ => k_asm); (case k4ᵥ => k_mem); (case k5ᵥ => k_mem); (case k6ᵥ => k_is); (case k7ᵥ => ks_is); (case k8ᵥ => decide); (case k9ᵥ => exact slot_wd_get); (case k10ᵥ => exact type_linit); (case k11ᵥ => exact entry_wd_get); (case k12ᵥ => exact args_wd_get); (case k13ᵥ => exact fun a b => wd_get a b (.inr ⟨rfl, rfl⟩)); (case k14ᵥ => exact rfl); (case k15ᵥ => kernel_rfl); intro _ _ _ _ l1ᵥ; (try k_lt l1ᵥ)))); (try (revert l1ᵥ; intro _))
  k_with "getMethod ref" => ((k_here; k_dflt (refine' sup_methodN ?k1ᵥ ?k2ᵥ ?k3ᵥ ?k4ᵥ ?k5ᵥ ?k6ᵥ ?k7ᵥ ?k8ᵥ ?k9ᵥ ?k10ᵥ ?k11ᵥ ?k12ᵥ ?k13ᵥ ?k14ᵥ ?k15ᵥ ?_; (case k1ᵥ => k_asm); (case k2ᵥ => k_in); (case k3ᵥ => k_asm); (case k4ᵥ => k_mem); (case k5ᵥ => k_mem); (case k6ᵥ => k_is); (case k7ᵥ => ks_is); (case k8ᵥ => decide); (case k9ᵥ => exact slot_md_get); (case k10ᵥ => exact type_pop); (case k11ᵥ => exact entry_md_get); (case k12ᵥ => exact args_md_get); (case k13ᵥ => exact fun a b => md_get a b); (case k14ᵥ => exact rfl); (case k15ᵥ => kernel_rfl); intro _ _ _ _ l1ᵥ; (try k_lt l1ᵥ)))); (try (revert l1ᵥ; intro _))
  k_with "callWith ref" => ((k_here; k_dflt (refine' callWith_bnd ?k1ᵥ ?k2ᵥ ?k3ᵥ ?_; (case k1ᵥ => k_asm); (case k2ᵥ => k_mem); (case k3ᵥ => first | exact .inl rfl | exact .inr rfl))))
  k_with "getMethod ref" => ((k_here; k_dflt (refine' a_methodN ?k1ᵥ ?k2ᵥ ?k3ᵥ ?k4ᵥ ?k5ᵥ ?k6ᵥ ?k7ᵥ ?k8ᵥ ?k9ᵥ ?_; (case k1ᵥ => k_asm); (case k2ᵥ => k_in); (case k3ᵥ => k_asm); (case k4ᵥ => k_mem); (case k5ᵥ => k_mem); (case k6ᵥ => k_is); (case k7ᵥ => k_is); (case k8ᵥ => first | exact .inl rfl | exact .inr rfl); (case k9ᵥ => exact rfl))))
  k_with "getAttr ref" => ((refine' a_getN ?k1ᵥ ?k2ᵥ ?k3ᵥ ?k4ᵥ ?k5ᵥ ?_; (case k1ᵥ => k_asm); (case k2ᵥ => k_in); (case k3ᵥ => k_asm); (case k4ᵥ => k_mem); (case k5ᵥ => k_mem)))
  k_with "call ref" => ((refine unstop ?_))
  trivial
theorem a_getbound {expr : Bool} {Q : Value → Shared → Prop} (X : (hd.heap_1 w'.params).In s.heap) (hx : s.heap.get? x = some (acc dx vs ep)) (hdx : s.heap.get? dx = some (dictOf es n))
    (ha : findIn (hd.heap_1 w'.params) (.ref 221) name = some (some (.ref f))) (hfn : typeIn (hd.heap_1 w'.params) (.ref f) = some (.type "function")) (hgf : specialIn (hd.heap_1 w'.params) (.ref f) "__get__" = some (some (.builtin "function.__get__"))) (ht : takesIn (hd.heap_1 w'.params) (.ref f) = some false) (hc : copiedNames.contains name = false)
    (hl : getL name es = some none) (h : Q (.ref s.heap.objs.size) { s with heap := s.heap.push (methodObj (.ref f) (.ref x)), toks := s.toks + 1 }) :
    wpAny (model prog w) A (getAttr (.ref x) name expr) Q E s := by
  have I := InstAt.acc hx hdx
  have hf := findObj_fn (K := hd.heap_1 w'.params) (C := 221) (od := dictOf es n) (by kernel_rfl) ha hgf ht hc (by show lookIn name (dictOf es n) = _; rw [lookIn_dict, hl])
  obtain ⟨hh, g, d, t, os⟩ := s
  have L0 := I.type (M := model prog w)
  have hga : findIn (hd.heap_1 w'.params) (.ref 221) "__getattribute__" = some (some (.builtin "list.__getattribute__")) := by kernel_rfl
  have hgt : findIn (hd.heap_1 w'.params) (.ref 221) "__getattr__" = some none := by kernel_rfl
  have L1 := looks_findIn (M := model prog w) X hga
  have L2 := looks_find (M := model prog w) X I hf
  have L3 := looks_findIn (M := model prog w) X hgt
  unfold getAttr getAttrBy
  refine wpAny_bind (wpAny_mkText (wpAny_holding (wpAny_bind (L0.at (wpAny_bind (L1.at ?_))))))
  show wpAny _ _ (getAttrByItsOwn _ _ _ _ _ _) _ _ _
  unfold getAttrByItsOwn hookBefore callGetattribute boundAndCalled
  refine wpAny_bind (show wpAny _ _ (typeLookup (.ref 221) "__getattr__") _ _ _ from L3.at ?_)
  refine wpAny_bind (wpAny_attempt (wpAny_holding ?_))
  have hce : (expr && onTheHeap (.builtin "list.__getattribute__")) = false := by cases expr <;> rfl
  rw [hce]
  refine PySem.W.KFB.if_not rfl ?_
  refine wpAny_bind (wpAny_of_eq (slot_list_ga.bind _) ?_)
  have e1 : builtinKind "list.__getattribute__" = some .slot ∨ builtinKind "list.__getattribute__" = some .method := .inl (by decide +kernel)
  have e2 : splitId "list.__getattribute__" = some ("list", "__getattribute__") := by decide +kernel
  have e3 := PySem.am_entry_list_getattribute
  have e4 := ga_args (.ref x) (.str name t)
  have e5 := slot_list_ga.plain
  show wpAny _ _ (call (.builtin "list.__getattribute__") [.ref x, .str name t]) _ _ _
  refine wpAny_call ?_
  refine codeAny_call_builtin e5 e3 ?_
  have e6 : Looks (model prog w) hh (isInstance (.ref x) (.type "list")) true := ac_inst X hx
  refine check_list (s := ⟨hh, g, d, t + 1, os⟩) (i := "list.__getattribute__") (owner := "list") (n := "__getattribute__") (self := .ref x) (rest := [.str name t]) (kw := []) e1 e2 e6 e4 ?_
  unfold Builtin.«object.__getattribute__»
  refine wpAny_bind (wpAny_of_eq (a := (.ref x, [.str name t])) (by first | rfl | kernel_rfl) ?_)
  refine wpAny_bind (wpAny_of_eq (a := name) rfl ?_)
  refine wpAny_bind (L0.at ?_)
  refine wpAny_bind (L2.at ?_)
  show wpAny _ _ (holding [.ref f] (call (.builtin "function.__get__") [.ref f, .ref x, .ref 221]) >>= ret) _ _ _
  refine wpAny_bind (wpAny_holding (wpAny_call (fn_get (s := ⟨hh, g, d, t + 1, os⟩) X hfn ?_)))
  refine wpAny_pure ?_
  show wpAny _ _ (handedOut (.ref hh.objs.size)) _ _ _
  rw [handedOut_of rfl]; exact wpAny_pure h
theorem m_star {o e : Expr} {apos p pos : Pos} {Q : Value → Shared → Prop} {M : Model} (h : wpAny M A (eval o env) (fun ov s₁ => wpAny M A (getAttr ov name true) (fun f s₂ => wpAny M A (callWith pos f [] (backTo pos (starEach [.Starred e p] env)) []) Q E s₂) E s₁) E s)
    (hb : attributeBase o name env (eval o env) = eval o env) :
    wpAny M A (eval (.Call (.Attribute o name apos) [.Starred e p] [] pos) env) Q E s := by
  show wpAny M A (attributeBase o name env (eval o env) >>= fun ov => standAt apos.atName >>= fun _ => methodCall o name apos pos env ov 1 (backTo pos (starEach [.Starred e p] env)) (backToKw pos (keywordEach [] env))) Q E s
  rw [hb]
  refine wpAny_bind (wpAny_mono h (fun ov s₁ h₁ => wpAny_bind (wpAny_standAt ?_)) fun _ _ z => z)
  unfold methodCall
  have hm : methodCallForm 1 (backTo pos (starEach [.Starred e p] env)) (backToKw pos (keywordEach [] env)) = false := by rfl
  rw [hm]
  refine wpAny_bind (wpAny_holding ?_)
  show wpAny _ _ (getAttr ov name true >>= fun f => pure (f, [])) _ _ _
  exact wpAny_bind (wpAny_mono h₁ (fun f s₂ h₂ => wpAny_pure (wpAny_bind (wpAny_pure h₂))) fun _ _ z => z)
theorem callWith_Sm {M : Model} {q g : Addr} {self : Value} {pos p : Pos} {e : Expr} {first : List Value} {Q : Value → Shared → Prop} (hf : fnIn K g = true)
    (h : wpAny M A (eval e env) (fun v s₁ => StarOf M A E v (fun vs s₂ => MethP K q g self s₂.heap ∧ wpAny M A (call (.ref q) (first ++ vs)) Q E s₂) s₁) E s)
    (he : starEach [.Starred e p] env = [(true, eval e env)]) :
    wpAny M A (callWith pos (.ref q) first (backTo pos (starEach [.Starred e p] env)) []) Q E s := by
  rw [he]
  exact ks_call rfl (keeps_M hf) (ks_lone h)
end
theorem words_A33_2 : True := by
  k_with "m0c_enter" => ((
  (have Xᵥ := Base.K (by assumption)); (have Tᵥ := Base.T (by assumption)); revert Tᵥ; revert Xᵥ; k_fill; intro _ _
  k_dflt (refine' enter0c ?k1ᵥ ?k2ᵥ ?k3ᵥ ?k4ᵥ ?k5ᵥ ?k6ᵥ ?k7ᵥ ?k8ᵥ ?k9ᵥ ?k10ᵥ ?_ ?k11ᵥ; (case k11ᵥ => assumption); (case k1ᵥ => exact Base.keeps (by assumption) (by assumption)); (case k2ᵥ => exact Room.depth (by assumption)); (case k3ᵥ => k_is); (case k4ᵥ => k_is); (case k5ᵥ => first | exact BindsTo.of_eq rfl | exact binds_K ((Base.K (by assumption)).keeps (by assumption)) rfl (by k_is) rfl rfl rfl | fail "m_enter: no rule for these arguments"); (case k6ᵥ => exact locs rfl); (case k7ᵥ => decide); (case k8ᵥ => exact rfl); (case k9ᵥ => exact rfl); (case k10ᵥ => exact rfl); k_whole; intro _ _ _ _; (try dsimp only); (try k_fold))))
  trivial
theorem fn_pushc (w : World) (mean : ExcName → Option Value) (mg mb : Str → Option Value) (x dx : Addr) (T : List Addr) (hT : x ∈ T) (vs : List Value) (n : Int) (parts : List (Str × Str)) (hz : vs.length ≤ 20) (f p : Str) (tf tp : Tok) :
   FnAc os₀ w mean mg mb 5 165 [.ref x, .str f tf, .str p tp] T (fun more => AccIn more x dx vs n parts) (fun v _ more' => v = .none ∧ ∃ vs', AccIn more' x dx vs' n (parts ++ [(f, p)])) := by
  refine FnAc.intro fun dp fr gd un g gs dr tk os R gb more rm B hk hzz ha hbr tch I ret => ?_
  have B2 := B.keeps (gAt_base hk ha)
  have k2 : Grows (gAt g more) g := gAt_grows
  have a2 := gAt_above ha
  have z2 : (gAt g more).objs.size ≤ g.objs.size := Nat.le_of_eq (hideAll_size _ _)
  have gk := gAt_base hk ha
  have hQ : ∀ v s', (fun (v : Value) (s' : Shared) => R (.ok (.ret v)) s') v s' → R (.ok (.ret v)) s' := fun v s' h => h
  replace ret : ∀ v s' more', Went gb g s'.heap T more more' → Still os₀ s' → (v = .none ∧ ∃ vs', AccIn more' x dx vs' n (parts ++ [(f, p)])) → (fun (v : Value) (s' : Shared) => R (.ok (.ret v)) s') v s' := ret
  generalize (fun (v : Value) (s' : Shared) => R (.ok (.ret v)) s') = Q at hQ ret
  clear B hk
  walk_at "m0c_enter"
  rename_i Lx hx0 F0 N0
  have N1 := News.lower F0 N0 k2 a2
  have F1 := Fr.lower F0 k2 z2
  rw [List.nil_append] at N1
  have F2 := (show Fr (gAt g more) _ _ (fun y => List.lookup y [(Str.ofString "string", Value.str p tp), (Str.ofString "fws", Value.str f tf), (Str.ofString "self", Value.ref x)]) from F1)
  obtain ⟨ep, hob⟩ := I.ob
  obtain ⟨hs, tk1, t1, k1, hdc⟩ := I.dc
  have N2 := dupN (dupN N1 hdc) (.tail _ hob)
  clear N1 F1 F0 N0
  k_steps
  (rename Fr _ _ _ _ => F3); (rename News _ _ _ _ => N3); (rename (_ < _ ∧ _ ∧ AllLt _ _) => l3)
  rename_i D' h3
  obtain ⟨lx, ldx, lm⟩ := l3
  have fr : g.get? D' = none := gAt_fresh (N3 _ (.head _)).2.2 (allLt_ne lm)
  refine a_append ((Base.K B2).keeps F3.keep) (N3 _ (.tail _ (.head _))).1 (by omega) fun h' ep' e1 sb => ?_
  show wpAny _ _ (pure Flow.next) _ _ _
  refine wpAny_pure ?_
  show Q _ _
  have kg : ∀ b o, b ≠ x → g.get? b = some o → h'.get? b = some o := fun b o hb e => by
    refine sb.extBut b o hb ?_
    by_cases hm : b ∈ more.map (·.1)
    · obtain ⟨q, hq, rfl⟩ := List.mem_map.mp hm
      have h1 := (N3 q (.tail _ (.tail _ (.tail _ hq)))).1
      rw [(ha q hq).1] at e
      rw [h1, Option.some.inj e]
    · exact F3.keep _ _ (hideAll_get _ e hm)
  have gD : gb.get? D' = none := by
    cases z : gb.get? D' with
    | none => rfl
    | some o => rw [k2 _ _ (gk _ _ z)] at fr; cases fr
  refine ret _ _ _ (Went.push ha hob hT tch fr gD kg (sb.extBut _ _ (Ne.symm (Nat.ne_of_lt lx)) (N3 _ (.head _)).1) e1) hbr ⟨rfl, _, AccIn.push (p := (f, p)) (t := tf) (t' := tp) (ep' := ep') I ha fr⟩
section
variable {w : World} {mean : ExcName → Option Value} {mg mb : Str → Option Value} {A : Around} {s : Shared} {Q E : Value → Shared → Prop} {h₀ : Heap} {L : Addr} {m : Str → Option Value} {news more : List (Addr × Obj)} {vo vd lo x dx q : Addr} {ml : Int} {lines : List Str} {parts : List (Str × Str)} {vs : List Value}
theorem fs_pushm (hz : vs.length ≤ 20) {f p : Str} {tf tp : Tok} (r : Room A 5) (B : Base w mean mg mb h₀) (F : Fr h₀ L s.heap m) (N : News h₀ L s.heap news) (hq : (q, methodObj (.ref 165) (.ref x)) ∈ news) (hs : ∀ q ∈ more, q ∈ news) (fs : FS more vo vd lo x dx ml lines parts vs) (hbr : Still os₀ s)
    (h : ∀ s' m' vs', Next os₀ h₀ L m [x] more m' s' → FS m' vo vd lo x dx ml lines (parts ++ [(f, p)]) vs' → Q .none s') : wpAny (model PySem.Challenge.rw_xo0029_01.row.prog w) A (call (.ref q) [.str f tf, .str p tp]) Q E s := by
  have Nm := News.fewer N hs
  have Ab := News.above Nm
  refine call_meth N hq (fn_pushc w mean mg mb x dx [x] (by simp) vs 0 parts hz f p tf tp A s _ h₀ more r B F.keep (Nat.le_of_lt (Nat.lt_of_le_of_lt F.above F.ns.lt)) Ab hbr (fun a ha => fs.tch a (by rw [List.mem_singleton.mp ha]; simp)) fs.a fun v s' more' W hb' P => ?_)
  obtain ⟨rfl, vs', I'⟩ := P
  have W' := W.full Ab
  have hk : ∀ q ∈ more, q.1 ∉ [x] → q ∈ restOf [x] more ++ more' := fun q hq hT => List.mem_append_left _ (mem_rest hq hT)
  refine h s' (restOf [x] more ++ more') vs' ⟨W'.fr F Nm, ?_, hb', hk⟩ ⟨fs.v.keep Ab fs.a fs.t (by simp) hk, I'.incl (fun _ h => List.mem_append_right _ h), fs.t.keep Ab (fun a ha => fs.a.acls a (by rw [List.mem_singleton.mp ha]; simp)) hk⟩
  have := W'.news2 (pre := []) F Nm (by simp)
  rwa [List.nil_append] at this
end
end
section -- A32
set_option maxHeartbeats 1200000
theorem words_A32_1 : True := by
  k_with_none
  w_top off
  k_with "mn_enter" => ((
  (have Xᵥ := Base.K (by assumption)); (have Tᵥ := Base.T (by assumption)); revert Tᵥ; revert Xᵥ; k_fill; intro _ _
  k_dflt (refine' enter0 ?k1ᵥ ?k2ᵥ ?k3ᵥ ?k4ᵥ ?k5ᵥ ?k6ᵥ ?k7ᵥ ?k8ᵥ ?k9ᵥ ?k10ᵥ ?_; (case k1ᵥ => exact Base.keeps (by assumption) (by assumption)); (case k2ᵥ => exact Room.depth (by assumption)); (case k3ᵥ => k_is); (case k4ᵥ => k_is); (case k5ᵥ => first | exact BindsTo.of_eq rfl | exact binds_K ((Base.K (by assumption)).keeps (by assumption)) rfl (by k_is) rfl rfl rfl | fail "m_enter: no rule for these arguments"); (case k6ᵥ => exact locs rfl); (case k7ᵥ => decide); (case k8ᵥ => exact rfl); (case k9ᵥ => exact rfl); (case k10ᵥ => exact rfl); k_whole; intro _ _ _ _; (try dsimp only); (try k_fold))))
  k_with "wpAt" => ((ks_step "attributeBase Call"; k_here; k_dflt (refine' a_node ?k1ᵥ ?k2ᵥ ?k3ᵥ ?k4ᵥ ?k5ᵥ ?k6ᵥ ?k7ᵥ ?k8ᵥ ?k9ᵥ ?k10ᵥ ?k11ᵥ ?k12ᵥ ?k13ᵥ ?k14ᵥ ?k15ᵥ ?k16ᵥ ?k17ᵥ ?k18ᵥ ?k19ᵥ ?k20ᵥ ?k21ᵥ ?k22ᵥ ?k23ᵥ ?_; (case k1ᵥ => k_asm); (case k2ᵥ => k_in); (case k3ᵥ => k_asm); (case k4ᵥ => exact Base.T (by assumption)); (case k5ᵥ => k_is); (case k6ᵥ => rfl); (case k7ᵥ => rfl); (case k8ᵥ => k_mem); (case k9ᵥ => k_mem); (case k10ᵥ => k_is); (case k11ᵥ => rfl); (case k12ᵥ => first | rfl | decide +kernel); (case k13ᵥ => k_is); (case k14ᵥ => k_is); (case k15ᵥ => k_is); (case k16ᵥ => k_is); (case k17ᵥ => decide); (case k18ᵥ => rfl); (case k19ᵥ => rfl); (case k20ᵥ => rfl); (case k21ᵥ => rfl); (case k22ᵥ => decide +kernel); (case k23ᵥ => first | boot_by_name | rfl | kernel_rfl); intro _ _ _ _ l1ᵥ; (try k_lt l1ᵥ)))); (try (revert l1ᵥ; intro _))
  k_with "getMethod ref" => ((k_here; k_dflt (refine' sup_methodN ?k1ᵥ ?k2ᵥ ?k3ᵥ ?k4ᵥ ?k5ᵥ ?k6ᵥ ?k7ᵥ ?k8ᵥ ?k9ᵥ ?k10ᵥ ?k11ᵥ ?k12ᵥ ?k13ᵥ ?k14ᵥ ?k15ᵥ ?_; (case k1ᵥ => k_asm); (case k2ᵥ => k_in); (case k3ᵥ => k_asm); (case k4ᵥ => k_mem); (case k5ᵥ => k_mem); (case k6ᵥ => k_is); (case k7ᵥ => ks_is); (case k8ᵥ => decide); (case k9ᵥ => exact slot_wd_get); (case k10ᵥ => exact type_llen); (case k11ᵥ => exact entry_wd_get); (case k12ᵥ => exact args_wd_get); (case k13ᵥ => exact fun a b => wd_get a b (.inl ⟨rfl, rfl⟩)); (case k14ᵥ => exact rfl); (case k15ᵥ => kernel_rfl); intro _ _ _ _ l1ᵥ; (try k_lt l1ᵥ)))); (try (revert l1ᵥ; intro _))
  k_with "getMethod ref" => ((k_here; k_dflt (refine' sup_methodN ?k1ᵥ ?k2ᵥ ?k3ᵥ ?k4ᵥ ?k5ᵥ ?k6ᵥ ?k7ᵥ ?k8ᵥ ?k9ᵥ ?k10ᵥ ?k11ᵥ ?k12ᵥ ?k13ᵥ ?k14ᵥ ?k15ᵥ ?_; (case k1ᵥ => k_asm); (case k2ᵥ => k_in); (case k3ᵥ => k_asm); (case k4ᵥ => k_mem); (case k5ᵥ => k_mem); (case k6ᵥ => k_is); (case k7ᵥ => ks_is); (case k8ᵥ => decide); (case k9ᵥ => exact slot_wd_get); (case k10ᵥ => exact type_linit); (case k11ᵥ => exact entry_wd_get); (case k12ᵥ => exact args_wd_get); (case k13ᵥ => exact fun a b => wd_get a b (.inr ⟨rfl, rfl⟩)); (case k14ᵥ => exact rfl); (case k15ᵥ => kernel_rfl); intro _ _ _ _ l1ᵥ; (try k_lt l1ᵥ)))); (try (revert l1ᵥ; intro _))
  k_with "getMethod ref" => ((k_here; k_dflt (refine' sup_methodN ?k1ᵥ ?k2ᵥ ?k3ᵥ ?k4ᵥ ?k5ᵥ ?k6ᵥ ?k7ᵥ ?k8ᵥ ?k9ᵥ ?k10ᵥ ?k11ᵥ ?k12ᵥ ?k13ᵥ ?k14ᵥ ?k15ᵥ ?_; (case k1ᵥ => k_asm); (case k2ᵥ => k_in); (case k3ᵥ => k_asm); (case k4ᵥ => k_mem); (case k5ᵥ => k_mem); (case k6ᵥ => k_is); (case k7ᵥ => ks_is); (case k8ᵥ => decide); (case k9ᵥ => exact slot_md_get); (case k10ᵥ => exact type_pop); (case k11ᵥ => exact entry_md_get); (case k12ᵥ => exact args_md_get); (case k13ᵥ => exact fun a b => md_get a b); (case k14ᵥ => exact rfl); (case k15ᵥ => kernel_rfl); intro _ _ _ _ l1ᵥ; (try k_lt l1ᵥ)))); (try (revert l1ᵥ; intro _))
  k_with "callWith ref" => ((k_here; k_dflt (refine' callWith_bnd ?k1ᵥ ?k2ᵥ ?k3ᵥ ?_; (case k1ᵥ => k_asm); (case k2ᵥ => k_mem); (case k3ᵥ => first | exact .inl rfl | exact .inr rfl))))
  k_with "getMethod ref" => ((k_here; k_dflt (refine' a_methodN ?k1ᵥ ?k2ᵥ ?k3ᵥ ?k4ᵥ ?k5ᵥ ?k6ᵥ ?k7ᵥ ?k8ᵥ ?k9ᵥ ?_; (case k1ᵥ => k_asm); (case k2ᵥ => k_in); (case k3ᵥ => k_asm); (case k4ᵥ => k_mem); (case k5ᵥ => k_mem); (case k6ᵥ => k_is); (case k7ᵥ => k_is); (case k8ᵥ => first | exact .inl rfl | exact .inr rfl); (case k9ᵥ => exact rfl))))
  k_with "getAttr ref" => ((refine' a_getN ?k1ᵥ ?k2ᵥ ?k3ᵥ ?k4ᵥ ?k5ᵥ ?_; (case k1ᵥ => k_asm); (case k2ᵥ => k_in); (case k3ᵥ => k_asm); (case k4ᵥ => k_mem); (case k5ᵥ => k_mem)))
  k_with "call ref" => ((refine unstop ?_))
  k_with "call builtin:len" => ((refine unstop ?_))
  k_with "call type:str" => ((refine unstop ?_))
  k_with "call builtin:list.append" => ((refine unstop ?_))
  k_with "compareOp NotEq" => ((refine unstop ?_))
  k_with "getAttr ref" => (((with_reducible show wpAny _ _ (getAttr _ (Str.ofString "push") _) _ _ _); refine unstop ?_))
  trivial
theorem fn_newline (w : World) (mean : ExcName → Option Value) (mg mb : Str → Option Value) (vo vd lo x dx : Addr) (T : List Addr) (hsub : ∀ a ∈ [x, dx, lo, 183, 190], a ∈ T) (ml : Int) (lines : List Str) (parts : List (Str × Str)) (vs : List Value) (cell : Str) (hz : vs.length ≤ 15) (hlz : lines.length ≤ 50) (hsz : ∀ p ∈ parts ++ [(Str.ofString " ", cell)], p.1.length ≤ 8 ∧ p.2.length ≤ 8)
   (hok : PyData.strOk cell = true) (hce : cell.length = 8) (hpos : 0 < preFrom 0 (lenAt (parts ++ [(Str.ofString " ", cell)])) (parts ++ [(Str.ofString " ", cell)]).length) (hsp : Txt.isspace (catS ((parts ++ [(Str.ofString " ", cell)]).map fun p => p.1 ++ p.2)) = false) :
   FnA os₀ w mean mg mb 22 99 [.ref vo] T (fun more => FS more vo vd lo x dx ml lines (parts ++ [(Str.ofString " ", cell)]) vs) (fun v _ more' => v = .none ∧ FS more' vo vd lo x dx ml (lines ++ [catS ((parts ++ [(Str.ofString " ", cell)]).map fun p => p.1 ++ p.2)]) [] []) := by
  refine FnA.intro fun dp fr gd un g gs dr tk os Q E gb more rm B hk hzz ha hbr tch fs ret => ?_
  have B2 := B.keeps (gAt_base hk ha)
  have k2 : Grows (gAt g more) g := gAt_grows
  have a2 := gAt_above ha
  have z2 : (gAt g more).objs.size ≤ g.objs.size := Nat.le_of_eq (hideAll_size _ _)
  have gk := gAt_base hk ha
  have X2 := Base.K B2
  clear B hk
  walk_at "mn_enter"
  rename_i Lx hx0 F0 N0
  have N1 := News.lower F0 N0 k2 a2
  have F1 := Fr.lower F0 k2 z2
  rw [List.nil_append] at N1
  have F2 := (show Fr (gAt g more) _ _ (fun y => List.lookup y [(Str.ofString "self", Value.ref vo)]) from F1)
  obtain ⟨_, _, _, N2⟩ := FS.dup fs N1
  clear N1 F1 F0 N0
  generalize tk + List.length _ = tk0
  have hl0 := fs.a.ln
  rw [List.length_append, List.length_singleton] at hl0
  k_steps
  unfold Stop
  (with_reducible rename Fr _ _ _ _ => F); (with_reducible rename News _ _ _ _ => N)
  refine fs_pop (by omega) (Room.less (Room.deeper (d := 21) rm) (by decide : 7 ≤ 21)) B2 F N (fun q hq => .tail _ (.tail _ (.tail _ (.tail _ (.tail _ hq))))) fs hbr fun s' m1 vs1 Tp tp tp' X hT1 fs1 => nextD fs1 X fun h1 gs1 dr1 tk1 os1 _ _ F1 N1 hb1 kk1 => ?_
  clear X s'
  clear F N
  have N := (dupN N1 (.tail _ (.tail _ (.tail _ (.tail _ (.tail _ hT1))))) : News _ _ _ ((Tp, { cls := .type "tuple", data := .seq #[.str (Str.ofString " ") tp, .str cell tp'] }) :: _))
  clear N1
  have hl1 := fs1.a.ln
  k_steps
  unfold Stop
  (with_reducible rename Fr _ _ _ _ => F); (with_reducible rename News _ _ _ _ => N4)
  have hne : (PyData.eqv (.tuple [.str (Str.ofString " "), .str cell]) (.tuple [.str (Str.ofString " "), .str (Str.ofString "")])) = false := by
    have h0 : (cell == Str.ofString "") = false := by
      rw [beq_eq_false_iff_ne]
      intro e
      rw [e] at hce
      cases hce
    simp [PyData.eqv, PyData.eqvAll, h0]
  refine ne_dataH (reads_tuple_at (News.get N4 (.tail _ (.head _))) rfl rfl (ReadsAll.cons (Reads.str _ _) (ReadsAll.cons (Reads.str _ _) ReadsAll.nil))) (reads_tuple_at (News.get N4 (.head _)) rfl rfl (ReadsAll.cons (Reads.str _ _) (ReadsAll.cons (Reads.str _ _) ReadsAll.nil))) (by simp [SeqAt.shaped, PyData.canLay0, PyData.depth, PyData.canLayAll0, PyData.depthAll, hok, (by decide +kernel : PyData.strOk (Str.ofString " ") = true)]) (by decide +kernel) (by have := rm.hu; show un + 3 + 64 < _; dsimp only at this; omega) ?_
  rw [hne]
  have N := News.fewer N4 fun q hq => .tail _ hq
  clear N4
  k_steps
  refine m_star ?_ (by rfl)
  k_steps
  unfold Stop
  (with_reducible rename Fr _ _ _ _ => F); (with_reducible rename News _ _ _ _ => N)
  refine a_getbound (f := 165) (X2.keeps F.keep) (N _ (.tail _ (.tail _ (.tail _ (.tail _ (.head _)))))).1 (N _ (.tail _ (.tail _ (.tail _ (.tail _ (.tail _ (.head _))))))).1 (by kernel_rfl) (by kernel_rfl) (by kernel_rfl) (by kernel_rfl) (by decide +kernel) (by rfl) ?_
  have F5 := Fr.push F (methodObj (.ref 165) (.ref x))
  have N5 := News.push F N (methodObj (.ref 165) (.ref x))
  clear F N
  refine callWith_Sm (K := hd.heap_1 w.params) (g := 165) (self := .ref x) (by kernel_rfl) ?_ (by rfl)
  k_steps
  unfold Stop
  (with_reducible rename Fr _ _ _ _ => F); (with_reducible rename News _ _ _ _ => N)
  refine fs_pushm (by omega) (Room.less (Room.deeper (d := 21) rm) (by decide : 5 ≤ 21)) B2 F N (.head _) (fun q hq => .tail _ (.tail _ (.tail _ (.tail _ (.tail _ (.tail _ (.tail _ hq))))))) fs1 hb1 fun s' m2 vs2 X fs2 => nextD fs2 X fun h2 gs2 dr2 tk2 os2 _ _ F2 N2 hb2 kk2 => ?_
  clear X s'
  clear F N
  have hl2 := fs2.a.ln
  rw [List.length_append, List.length_singleton] at hl2
  k_steps
  unfold Stop
  (with_reducible rename Fr _ _ _ _ => F); (with_reducible rename News _ _ _ _ => N)
  refine fs_len (by omega) hsz (Room.less (Room.deeper (d := 21) rm) (by decide : 9 ≤ 21)) B2 F N (fun q hq => .tail _ (.tail _ (.tail _ (.tail _ (.tail _ hq))))) fs2 hb2 fun s' m3 t3 X fs3 => nextD fs3 X fun h3 gs3 dr3 tk3 os3 _ _ F3 N3 hb3 kk3 => ?_
  clear X s'
  clear F N
  generalize hq : preFrom 0 (lenAt (parts ++ [(Str.ofString " ", cell)])) (parts ++ [(Str.ofString " ", cell)]).length = q at *
  k_steps
  unfold Stop
  (with_reducible rename Fr _ _ _ _ => F); (with_reducible rename News _ _ _ _ => N)
  refine fs_ows (by omega) hsz (by rw [hq]; exact hpos) hsp (Room.less (Room.deeper (d := 21) rm) (by decide : 14 ≤ 21)) B2 F N (fun q hq => .tail _ (.tail _ (.tail _ (.tail _ (.tail _ hq))))) fs3 hb3 fun s' m4 X fs4 => nextD fs4 X fun h4 gs4 dr4 tk4 os4 _ _ F4 N4 hb4 kk4 => ?_
  clear X s'
  clear F N
  k_steps
  unfold Stop
  (with_reducible rename Fr _ _ _ _ => F); (with_reducible rename News _ _ _ _ => N)
  refine fs_str (by omega) hsz (Room.less (Room.deeper (d := 21) rm) (by decide : 12 ≤ 21)) B2 F N (fun q hq => .tail _ (.tail _ (.tail _ (.tail _ (.tail _ hq))))) fs4 hb4 fun s' m5 t5 X fs5 => nextD fs5 X fun h5 gs5 dr5 tk5 os5 _ _ F5 N5 hb5 kk5 => ?_
  clear X s'
  clear F N
  k_steps
  unfold Stop
  (with_reducible rename Fr _ _ _ _ => F); (with_reducible rename News _ _ _ _ => N)
  refine fs_append (by omega) F N (fun q hq => .tail _ (.tail _ (.tail _ (.tail _ (.tail _ hq))))) fs5 hb5 fun s' m6 X fs6 => nextD fs6 X fun h6 gs6 dr6 tk6 os6 _ _ F6 N6 hb6 kk6 => ?_
  clear X s'
  clear F N
  k_steps
  unfold Stop
  (with_reducible rename Fr _ _ _ _ => F); (with_reducible rename News _ _ _ _ => N)
  refine fs_reset0 (by omega) (Room.less (Room.deeper (d := 21) rm) (by decide : 5 ≤ 21)) B2 F N (fun q hq => .tail _ (.tail _ (.tail _ (.tail _ (.tail _ hq))))) fs6 hb6 fun s' m7 X fs7 => ?_
  dsimp only
  refine nextD fs7 X fun h7 gs7 dr7 tk7 os7 _ _ F7 N7 hb7 kk7 => ?_
  clear X s'
  clear F N
  k_steps
  (with_reducible rename Fr _ _ _ _ => F); (with_reducible rename News _ _ _ _ => N)
  refine ret _ _ m7 (Went.fin ha gk F N (fun q hq => .tail _ (.tail _ (.tail _ (.tail _ (.tail _ hq))))) (fun q hq hn => .tail _ (.tail _ (.tail _ (.tail _ (.tail _ (kk7 q (kk6 q (kk5 q (kk4 q (kk3 q (kk2 q (kk1 q hq (fun h => hn (hsub _ (in1 h)))) (fun h => hn (hsub _ (in1 h)))) (fun h => hn (hsub _ (in3 h)))) (fun h => hn (hsub _ (in5 h)))) (fun h => hn (hsub _ (in4 h)))) (fun h => hn (hsub _ (in6 h)))) (fun h => hn (hsub _ (in2 h))))))))) tch) hb7 ⟨rfl, fs7⟩
end
section -- A34
set_option maxHeartbeats 900000
theorem words_A34_1 : True := by
  k_with_none
  w_top off
  k_with "mn_enter" => ((
  (have Xᵥ := Base.K (by assumption)); (have Tᵥ := Base.T (by assumption)); revert Tᵥ; revert Xᵥ; k_fill; intro _ _
  k_dflt (refine' enter0 ?k1ᵥ ?k2ᵥ ?k3ᵥ ?k4ᵥ ?k5ᵥ ?k6ᵥ ?k7ᵥ ?k8ᵥ ?k9ᵥ ?k10ᵥ ?_; (case k1ᵥ => exact Base.keeps (by assumption) (by assumption)); (case k2ᵥ => exact Room.depth (by assumption)); (case k3ᵥ => k_is); (case k4ᵥ => k_is); (case k5ᵥ => first | exact BindsTo.of_eq rfl | exact binds_K ((Base.K (by assumption)).keeps (by assumption)) rfl (by k_is) rfl rfl rfl | fail "m_enter: no rule for these arguments"); (case k6ᵥ => exact locs rfl); (case k7ᵥ => decide); (case k8ᵥ => exact rfl); (case k9ᵥ => exact rfl); (case k10ᵥ => exact rfl); k_whole; intro _ _ _ _; (try dsimp only); (try k_fold))))
  k_with "wpAt" => ((ks_step "attributeBase Call"; k_here; k_dflt (refine' a_node ?k1ᵥ ?k2ᵥ ?k3ᵥ ?k4ᵥ ?k5ᵥ ?k6ᵥ ?k7ᵥ ?k8ᵥ ?k9ᵥ ?k10ᵥ ?k11ᵥ ?k12ᵥ ?k13ᵥ ?k14ᵥ ?k15ᵥ ?k16ᵥ ?k17ᵥ ?k18ᵥ ?k19ᵥ ?k20ᵥ ?k21ᵥ ?k22ᵥ ?k23ᵥ ?_; (case k1ᵥ => k_asm); (case k2ᵥ => k_in); (case k3ᵥ => k_asm); (case k4ᵥ => exact Base.T (by assumption)); (case k5ᵥ => k_is); (case k6ᵥ => rfl); (case k7ᵥ => rfl); (case k8ᵥ => k_mem); (case k9ᵥ => k_mem); (case k10ᵥ => k_is); (case k11ᵥ => rfl); (case k12ᵥ => first | rfl | decide +kernel); (case k13ᵥ => k_is); (case k14ᵥ => k_is); (case k15ᵥ => k_is); (case k16ᵥ => k_is); (case k17ᵥ => decide); (case k18ᵥ => rfl); (case k19ᵥ => rfl); (case k20ᵥ => rfl); (case k21ᵥ => rfl); (case k22ᵥ => decide +kernel); (case k23ᵥ => first | boot_by_name | rfl | kernel_rfl); intro _ _ _ _ l1ᵥ; (try k_lt l1ᵥ)))); (try (revert l1ᵥ; intro _))
  k_with "getMethod ref" => ((k_here; k_dflt (refine' sup_methodN ?k1ᵥ ?k2ᵥ ?k3ᵥ ?k4ᵥ ?k5ᵥ ?k6ᵥ ?k7ᵥ ?k8ᵥ ?k9ᵥ ?k10ᵥ ?k11ᵥ ?k12ᵥ ?k13ᵥ ?k14ᵥ ?k15ᵥ ?_; (case k1ᵥ => k_asm); (case k2ᵥ => k_in); (case k3ᵥ => k_asm); (case k4ᵥ => k_mem); (case k5ᵥ => k_mem); (case k6ᵥ => k_is); (case k7ᵥ => ks_is); (case k8ᵥ => decide); (case k9ᵥ => exact slot_wd_get); (case k10ᵥ => exact type_llen); (case k11ᵥ => exact entry_wd_get); (case k12ᵥ => exact args_wd_get); (case k13ᵥ => exact fun a b => wd_get a b (.inl ⟨rfl, rfl⟩)); (case k14ᵥ => exact rfl); (case k15ᵥ => kernel_rfl); intro _ _ _ _ l1ᵥ; (try k_lt l1ᵥ)))); (try (revert l1ᵥ; intro _))
  k_with "getMethod ref" => ((k_here; k_dflt (refine' sup_methodN ?k1ᵥ ?k2ᵥ ?k3ᵥ ?k4ᵥ ?k5ᵥ ?k6ᵥ ?k7ᵥ ?k8ᵥ ?k9ᵥ ?k10ᵥ ?k11ᵥ ?k12ᵥ ?k13ᵥ ?k14ᵥ ?k15ᵥ ?_; (case k1ᵥ => k_asm); (case k2ᵥ => k_in); (case k3ᵥ => k_asm); (case k4ᵥ => k_mem); (case k5ᵥ => k_mem); (case k6ᵥ => k_is); (case k7ᵥ => ks_is); (case k8ᵥ => decide); (case k9ᵥ => exact slot_wd_get); (case k10ᵥ => exact type_linit); (case k11ᵥ => exact entry_wd_get); (case k12ᵥ => exact args_wd_get); (case k13ᵥ => exact fun a b => wd_get a b (.inr ⟨rfl, rfl⟩)); (case k14ᵥ => exact rfl); (case k15ᵥ => kernel_rfl); intro _ _ _ _ l1ᵥ; (try k_lt l1ᵥ)))); (try (revert l1ᵥ; intro _))
  k_with "getMethod ref" => ((k_here; k_dflt (refine' sup_methodN ?k1ᵥ ?k2ᵥ ?k3ᵥ ?k4ᵥ ?k5ᵥ ?k6ᵥ ?k7ᵥ ?k8ᵥ ?k9ᵥ ?k10ᵥ ?k11ᵥ ?k12ᵥ ?k13ᵥ ?k14ᵥ ?k15ᵥ ?_; (case k1ᵥ => k_asm); (case k2ᵥ => k_in); (case k3ᵥ => k_asm); (case k4ᵥ => k_mem); (case k5ᵥ => k_mem); (case k6ᵥ => k_is); (case k7ᵥ => ks_is); (case k8ᵥ => decide); (case k9ᵥ => exact slot_md_get); (case k10ᵥ => exact type_pop); (case k11ᵥ => exact entry_md_get); (case k12ᵥ => exact args_md_get); (case k13ᵥ => exact fun a b => md_get a b); (case k14ᵥ => exact rfl); (case k15ᵥ => kernel_rfl); intro _ _ _ _ l1ᵥ; (try k_lt l1ᵥ)))); (try (revert l1ᵥ; intro _))
  k_with "callWith ref" => ((k_here; k_dflt (refine' callWith_bnd ?k1ᵥ ?k2ᵥ ?k3ᵥ ?_; (case k1ᵥ => k_asm); (case k2ᵥ => k_mem); (case k3ᵥ => first | exact .inl rfl | exact .inr rfl))))
  k_with "getMethod ref" => ((k_here; k_dflt (refine' a_methodN ?k1ᵥ ?k2ᵥ ?k3ᵥ ?k4ᵥ ?k5ᵥ ?k6ᵥ ?k7ᵥ ?k8ᵥ ?k9ᵥ ?_; (case k1ᵥ => k_asm); (case k2ᵥ => k_in); (case k3ᵥ => k_asm); (case k4ᵥ => k_mem); (case k5ᵥ => k_mem); (case k6ᵥ => k_is); (case k7ᵥ => k_is); (case k8ᵥ => first | exact .inl rfl | exact .inr rfl); (case k9ᵥ => exact rfl))))
  k_with "getAttr ref" => ((refine' a_getN ?k1ᵥ ?k2ᵥ ?k3ᵥ ?k4ᵥ ?k5ᵥ ?_; (case k1ᵥ => k_asm); (case k2ᵥ => k_in); (case k3ᵥ => k_asm); (case k4ᵥ => k_mem); (case k5ᵥ => k_mem)))
  k_with "call ref" => ((refine unstop ?_))
  k_with "call builtin:len" => ((refine unstop ?_))
  k_with "call type:str" => ((refine unstop ?_))
  trivial
theorem FS.tch5 {more : List (Addr × Obj)} {vo vd lo x dx : Addr} {ml : Int} {lines : List Str} {parts : List (Str × Str)} {vs : List Value} (f : FS more vo vd lo x dx ml lines parts vs) : ∀ a ∈ [x, dx, lo, 183, 190], ∃ o, (a, o) ∈ more := fun a ha => by
  have h4 := f.tch
  obtain ⟨lvs, ep, hl, _⟩ := f.v.ls
  simp only [List.mem_cons, List.not_mem_nil, or_false] at ha
  rcases ha with h | h | h | h | h
  · exact h4 a (by simp [h])
  · exact h4 a (by simp [h])
  · exact ⟨_, by rw [h]; exact hl⟩
  · exact h4 a (by simp [h])
  · exact h4 a (by simp [h])
theorem words_A34_2 : True := by
  k_with "call builtin:str.join" => ((refine unstop ?_))
  trivial
theorem fn_vstr (w : World) (mean : ExcName → Option Value) (mg mb : Str → Option Value) (vo vd lo x dx : Addr) (T : List Addr) (hsub : ∀ a ∈ [x, dx, lo, 183, 190], a ∈ T) (ml : Int) (lines : List Str) (parts : List (Str × Str)) (vs : List Value) (cell sep : Str) (ts : Tok) (hz : vs.length ≤ 15) (hlz : lines.length ≤ 50) (hsz : ∀ p ∈ parts ++ [(Str.ofString " ", cell)], p.1.length ≤ 8 ∧ p.2.length ≤ 8)
   (hok : PyData.strOk cell = true) (hce : cell.length = 8) (hpos : 0 < preFrom 0 (lenAt (parts ++ [(Str.ofString " ", cell)])) (parts ++ [(Str.ofString " ", cell)]).length) (hsp : Txt.isspace (catS ((parts ++ [(Str.ofString " ", cell)]).map fun p => p.1 ++ p.2)) = false)
   (hsep : sep.length ≤ 16) (hjw : ((lines ++ [catS ((parts ++ [(Str.ofString " ", cell)]).map fun p => p.1 ++ p.2)]).map (·.length)).sum + (lines ++ [catS ((parts ++ [(Str.ofString " ", cell)]).map fun p => p.1 ++ p.2)]).length ≤ 1048576) :
   FnA os₀ w mean mg mb 24 85 [.ref vo, .str sep ts] T (fun more => FS more vo vd lo x dx ml lines (parts ++ [(Str.ofString " ", cell)]) vs) (fun v _ more' => (∃ t, v = .str (Txt.join sep (lines ++ [catS ((parts ++ [(Str.ofString " ", cell)]).map fun p => p.1 ++ p.2)])) t) ∧ Tabs more') := by
  refine FnA.intro fun dp fr gd un g gs dr tk os Q E gb more rm B hk hzz ha hbr tch fs ret => ?_
  have B2 := B.keeps (gAt_base hk ha)
  have k2 : Grows (gAt g more) g := gAt_grows
  have a2 := gAt_above ha
  have z2 : (gAt g more).objs.size ≤ g.objs.size := Nat.le_of_eq (hideAll_size _ _)
  have gk := gAt_base hk ha
  have X2 := Base.K B2
  clear B hk
  walk_at "mn_enter"
  rename_i Lx hx0 F0 N0
  have N1 := News.lower F0 N0 k2 a2
  have F1 := Fr.lower F0 k2 z2
  rw [List.nil_append] at N1
  have F2 := (show Fr (gAt g more) _ _ (fun y => List.lookup y [(Str.ofString "linesep", Value.str sep ts), (Str.ofString "self", Value.ref vo)]) from F1)
  obtain ⟨_, _, _, N2⟩ := FS.dup fs N1
  clear N1 F1 F0 N0
  generalize tk + List.length _ = tk0
  k_steps
  unfold Stop
  (with_reducible rename Fr _ _ _ _ => F); (with_reducible rename News _ _ _ _ => N)
  refine callA2 (fn_newline w mean mg mb vo vd lo x dx [x, dx, lo, 183, 190] (fun a h => h) ml lines parts vs cell hz hlz hsz hok hce hpos hsp) (Room.less (Room.deeper (d := 23) rm) (by decide : 22 ≤ 23)) B2 F N [] more (by simp) (fun q hq => .tail _ (.tail _ (.tail _ (.tail _ (.tail _ hq))))) (by simp) hbr fs.tch5 fs fun v s' more' m1 P kk1 hm F1 N1 hb1 => ?_
  obtain ⟨rfl, fs1⟩ := P
  obtain ⟨h1, gs1, dr1, tk1, os1⟩ := s'
  dsimp only at F1 N1 hb1
  rw [List.nil_append] at N1
  clear F N
  obtain ⟨_, lvs, sa, N2⟩ := FS.dup fs1 (News.fewer N1 hm)
  generalize hln : lines ++ [catS ((parts ++ [(Str.ofString " ", cell)]).map fun p => p.1 ++ p.2)] = lns at *
  k_steps
  unfold Stop
  (with_reducible rename Fr _ _ _ _ => F)
  refine join_listW (D := lo) (items := lvs.toArray) ⟨_, (N2 _ (.head _)).1, rfl, _, rfl⟩ (by simpa using sa) hsep hjw fun t' k => ?_
  show Q _ _
  have tb : Tabs m1 := by
    obtain ⟨⟨p1, a1, b1⟩, ⟨p2, a2, b2⟩⟩ := fs1.t
    exact ⟨⟨p1, hm _ a1, b1⟩, ⟨p2, hm _ a2, b2⟩⟩
  exact ret _ _ m1 (Went.fin ha gk F N1 (fun q hq => hq) (fun q hq hn => kk1 q hq fun h => hn (hsub _ h)) tch) hb1 ⟨⟨_, rfl⟩, tb⟩
end
section -- A36
set_option maxHeartbeats 400000
/-- the cells of a line, each with its blank -/
noncomputable def prs (cur : List Str) : List (Str × Str) := cur.map fun c => (Str.ofString " ", c)
/-- a line's text -/
noncomputable def rowT (cur : List Str) : Str := catS (cur.map fun c => Str.ofString " " ++ c)
theorem prs_snoc (cur : List Str) (c : Str) : prs (cur ++ [c]) = prs cur ++ [(Str.ofString " ", c)] := by simp [prs]
theorem prs_len (cur : List Str) : (prs cur).length = cur.length := by simp [prs]
theorem prs_text (cur : List Str) : catS ((prs cur).map fun p => p.1 ++ p.2) = rowT cur := by unfold prs rowT; rw [List.map_map]; rfl
theorem prs_sz {cur : List Str} (h : ∀ c ∈ cur, c.length = 8) : ∀ p ∈ prs cur, p.1.length ≤ 8 ∧ p.2.length ≤ 8 := fun p hp => by
  obtain ⟨c, hc, rfl⟩ := List.mem_map.mp hp
  exact ⟨by show (Str.ofString " ").length ≤ 8; decide, by show c.length ≤ 8; rw [h c hc]; decide⟩
theorem prs_pre {cur : List Str} (h : ∀ c ∈ cur, c.length = 8) : ∀ j : Nat, j ≤ cur.length → preFrom 0 (lenAt (prs cur)) j = 9 * (j : Int)
  | 0, _ => by simp [preFrom]
  | j + 1, hj => by
    have h1 := prs_pre h j (by omega)
    have h2 : lenAt (prs cur) j = 9 := by
      have hj' : j < cur.length := by omega
      have hc := h _ (List.getElem_mem hj')
      unfold lenAt prs
      rw [List.getElem?_map, List.getElem?_eq_getElem hj']
      show ((Str.ofString " ").length : Int) + (cur[j].length : Int) = 9
      rw [hc]; rfl
    simp only [preFrom, h1, h2]
    omega
/-- one more cell is laid -/
noncomputable def stepF (many : Nat) (st : List Str × List Str) (c : Str) : List Str × List Str := if st.2.length + 1 ≤ many then (st.1, st.2 ++ [c]) else (st.1 ++ [rowT st.2], [c])
theorem fn_chunk (w : World) (mean : ExcName → Option Value) (mg mb : Str → Option Value) (vo vd lo x dx : Addr) (T : List Addr) (hsub : ∀ a ∈ [x, dx, lo, 183, 190], a ∈ T) (many left : Nat) (lines cur : List Str) (vs : List Value) (c : Str) (tf tc : Tok) (hm : 1 ≤ many) (hm2 : many ≤ 9) (hleft : left ≤ 8) (hz : vs.length = cur.length) (hcl : cur.length ≤ many) (hlz : lines.length ≤ 50) (h8 : ∀ c ∈ cur, c.length = 8) (hc8 : c.length = 8) :
   FnA os₀ w mean mg mb 20 134 [.ref vo, .str (Str.ofString " ") tf, .str c tc] T (fun more => FS more vo vd lo x dx ((9 * many + left : Nat) : Int) lines (prs cur) vs) (fun v _ more' => v = .none ∧ ∃ vs', FS more' vo vd lo x dx ((9 * many + left : Nat) : Int) (stepF many (lines, cur) c).1 (prs (stepF many (lines, cur) c).2) vs') := by
  have h8' : ∀ d ∈ cur ++ [c], d.length = 8 := fun d hd => by
    rcases List.mem_append.mp hd with h | h
    · exact h8 d h
    · rw [List.mem_singleton.mp h]; exact hc8
  have hsz := prs_sz h8'
  have hpre := prs_pre h8' (cur.length + 1) (by simp)
  rw [prs_snoc] at hsz hpre
  have hln : (prs cur ++ [(Str.ofString " ", c)]).length = cur.length + 1 := by simp [prs]
  by_cases hq : cur.length + 1 ≤ many
  · have e1 : stepF many (lines, cur) c = (lines, cur ++ [c]) := if_pos hq
    rw [e1, prs_snoc]
    exact fn_chunkA w mean mg mb vo vd lo x dx T hsub _ lines (prs cur) vs c tf tc (by omega) hsz (by rw [hln, hpre]; push_cast; omega)
  · have e1 : stepF many (lines, cur) c = (lines ++ [rowT cur], [c]) := if_neg hq
    rw [e1]
    have := fn_chunkB (os₀ := os₀) w mean mg mb vo vd lo x dx T hsub ((9 * many + left : Nat) : Int) lines (prs cur) vs c tf tc (by omega) hlz (by rw [prs_len]; omega) hsz (by rw [hln, hpre]; push_cast; omega)
    rw [prs_text] at this
    exact this
end
section -- A35
set_option maxHeartbeats 400000
section
variable {prog : Program} {w : World} {A : Around} {E : Value → Shared → Prop} {s : Shared} {h₀ : Heap} {L : Addr} {m : Str → Option Value} {env : Env}
noncomputable abbrev cellO (v : Option Value) : Obj := { cls := .type "cell", data := .cell v }
/-- a comprehension's environment with one cell of its own -/
theorem newEnv_cell {scope : Scope} {x : Str} {Q : Env → Shared → Prop} (hcf : ∀ n, cellsFrom n scope.names [] = [(x, n)]) (hpc : ∀ h, pushCells h scope.names = h.push (cellO none))
    (h : Q { scope := scope, locals := s.heap.objs.size, globals := env.globals, cells := [(x, s.heap.objs.size + 1)], qual := env.qual, func := none, code := env.code, frame := env.frame, builtins := env.builtins } { s with heap := (s.heap.push { cls := .type "dict", data := .dict #[] }).push (cellO none) }) :
    wpAny (model prog w) A (newFunctionEnv scope env.globals [] [] env.qual none .none (some env)) Q E s := by
  simp only [newFunctionEnv, Option.isSome_some, if_true]
  refine wpAny_bind (wpAny_alloc ?_)
  refine wpAny_bind (wpAny_layCells _ (fun name kind cells => by cases hkc : kind == NameKind.cell <;> simp) _ _ _ _ ?_)
  rw [hcf, hpc]
  refine wpAny_bind ?_
  simp only [List.forIn_nil]
  refine wpAny_pure (wpAny_pure ?_)
  rw [show ({ s with heap := s.heap.push { cls := .type "dict", data := .dict #[] } } : Shared).heap.objs.size = s.heap.objs.size + 1 from Heap.size_push ..]
  exact h
noncomputable def Off4 (I C c D ax : Addr) (news : List (Addr × Obj)) : Prop := ∀ p ∈ news, p.1 ≠ I ∧ p.1 ≠ C ∧ p.1 ≠ c ∧ p.1 ≠ D ∧ p.1 ≠ ax
noncomputable abbrev srcO (its : Array Value) (k : Nat) : Obj := { cls := .type "list", data := .seq its k }
/-- what stands at the end of an element -/
inductive EltEnd (h₀ : Heap) (L : Addr) (m : Str → Option Value) (s₁ : Shared) (l : List (Addr × Obj)) (I C c D ax : Addr) (r : Value → List (Addr × Obj) → Prop) (y : Value) (s₂ : Shared) : Prop
  | mk (h' : Heap) (tk' : Nat) (news' : List (Addr × Obj)) (es : s₂ = { s₁ with heap := h', toks := tk' }) (F : Fr h₀ L h' m) (N : News h₀ L h' (l ++ news')) (off : Off4 I C c D ax news') (hr : r y news')
noncomputable abbrev oDict : Obj := { cls := .type "dict", data := .dict #[] }
noncomputable abbrev led5 (I C c D ax : Addr) (oI oC oc : Obj) (ys : List Value) (its : Array Value) (k : Nat) (news : List (Addr × Obj)) : List (Addr × Obj) := [(I, oI), (C, oC), (c, oc), (D, LCg.lst ys), (ax, srcO its k)] ++ news
/-- what a turn and the end are to bear -/
noncomputable abbrev StepC (prog : Program) (w : World) (A : Around) (h₀ : Heap) (L : Addr) (m : Str → Option Value) (env : Env) (elt : Expr) (x : Str) (scope : Scope) (Inv : Nat → List Value → List (Addr × Obj) → Prop) (ax : Addr) (its : Array Value) (k : Nat) (s₁ : Shared) : Prop :=
  ∀ i v ys news' I oI C oC c oc D h tk (E' : Value → Shared → Prop), its[i]? = some v → Inv i ys news' → oc.data = .cell (some v) → Fr h₀ L h m → News h₀ L h ([(I, oI), (C, oC), (c, oc), (D, LCg.lst ys), (ax, srcO its k)] ++ news') → Off4 I C c D ax news' →
        wpAny (model prog w) A (eval elt (compEnvC scope [(x, c)] C env)) (EltEnd h₀ L m s₁ [(I, oI), (C, oC), (c, oc), (D, LCg.lst ys), (ax, srcO its k)] I C c D ax (fun y news'' => Inv (i + 1) (ys ++ [y]) news'')) E' { s₁ with heap := h, toks := tk }
noncomputable abbrev FinC (h₀ : Heap) (L : Addr) (m : Str → Option Value) (Inv : Nat → List Value → List (Addr × Obj) → Prop) (Q : Value → Shared → Prop) (n : Nat) (s₁ : Shared) : Prop :=
  ∀ D h tk ys news', Fr h₀ L h m → News h₀ L h ((D, LCg.lst ys) :: news') → (∀ p ∈ news', p.1 ≠ D) → Inv n ys news' → Q (.ref D) { s₁ with heap := h, toks := tk }
inductive SrcC (prog : Program) (w : World) (A : Around) (h₀ : Heap) (L : Addr) (m : Str → Option Value) (env : Env) (elt : Expr) (x : Str) (scope : Scope) (Inv : Nat → List Value → List (Addr × Obj) → Prop) (Q : Value → Shared → Prop) (xv : Value) (s₁ : Shared) : Prop
  | mk (ax : Addr) (its : Array Value) (k : Nat) (news : List (Addr × Obj)) (e1 : xv = .ref ax) (F : Fr h₀ L s₁.heap m) (N : News h₀ L s₁.heap ((ax, srcO its k) :: news)) (hsz : its.size ≤ 1000) (hax : ∀ p ∈ news, p.1 ≠ ax) (hI : Inv 0 [] news)
    (step : StepC prog w A h₀ L m env elt x scope Inv ax its k s₁) (fin : FinC h₀ L m Inv Q its.size s₁)
inductive LoopC (h₀ : Heap) (L : Addr) (m : Str → Option Value) (s₁ : Shared) (I ax : Addr) (its : Array Value) (k : Nat) (Inv : Nat → List Value → List (Addr × Obj) → Prop) (kk : Nat) (s' : Shared) : Prop
  | mk (h' : Heap) (tk i : Nat) (ys : List Value) (news' : List (Addr × Obj)) (oI oc : Obj) (v₀ : Option Value) (es : s' = { s₁ with heap := h', toks := tk }) (hi : i ≤ its.size) (hk : kk = its.size + 1 - i) (hyl : ys.length = i)
    (hIc : oI.cls = .type "list_iterator") (hId : oI.data = .fields #[.ref ax, .int i 0]) (hcv : oc.data = .cell v₀) (F : Fr h₀ L h' m) (N : News h₀ L h' (led5 I (I + 2) (I + 3) (I + 1) ax oI oDict oc ys its k news')) (off : Off4 I (I + 2) (I + 3) (I + 1) ax news') (hInv : Inv i ys news')
theorem ltNe {a b : Addr} (h : @LT.lt Nat _ a b) : a ≠ b := Nat.ne_of_lt h
theorem gtNe {a b : Addr} (h : @LT.lt Nat _ a b) : b ≠ a := Nat.ne_of_gt h
section
variable {h h' : Heap} {b : Addr} {o o' : Obj} {l1 l2 : List (Addr × Obj)}
/-- one object of a ledger changed -/
theorem newsSet (N : News h₀ L h (l1 ++ (b, o) :: l2)) (k : ∀ a q, a ≠ b → h.get? a = some q → h'.get? a = some q) (e : h'.get? b = some o') (a1 : ∀ p, p ∈ l1 → p.1 ≠ b) (a2 : ∀ p, p ∈ l2 → p.1 ≠ b) : News h₀ L h' (l1 ++ (b, o') :: l2) :=
  allA (fun p hp => ⟨k _ _ (a1 p hp) (N p (List.mem_append_left _ hp)).1, (N p (List.mem_append_left _ hp)).2⟩)
    (allC ⟨e, (N (b, o) (List.mem_append_right _ (.head _))).2⟩ fun p hp => ⟨k _ _ (a2 p hp) (N p (List.mem_append_right _ (.tail _ hp))).1, (N p (List.mem_append_right _ (.tail _ hp))).2⟩)
theorem frSet (F : Fr h₀ L h m) (h2 : b ≠ L ∧ h₀.get? b = none) (k : ∀ a q, a ≠ b → h.get? a = some q → h'.get? a = some q) : Fr h₀ L h' m :=
  ⟨F.ns.at fun o q => k _ _ (Ne.symm h2.1) q, fun a o q => k a o (fun z => by subst z; rw [h2.2] at q; cases q) (F.keep a o q), F.above⟩
end
/-- the apartness of the five -/
theorem apart5 {I ax : Addr} (hax : @LT.lt Nat _ ax I) {news : List (Addr × Obj)} (off : Off4 I (I + 2) (I + 3) (I + 1) ax news) {oI oc : Obj} {ys : List Value} {its : Array Value} {k : Nat} :
    (∀ p, p ∈ [((I + 2 : Addr), oDict), (I + 3, oc), (I + 1, LCg.lst ys), (ax, srcO its k)] ++ news → p.1 ≠ I) ∧ (∀ p, p ∈ [(I, oI), ((I + 2 : Addr), oDict)] → p.1 ≠ I + 3) ∧ (∀ p, p ∈ [((I + 1 : Addr), LCg.lst ys), (ax, srcO its k)] ++ news → p.1 ≠ I + 3) ∧
    (∀ p, p ∈ [(I, oI), ((I + 2 : Addr), oDict), (I + 3, oc)] → p.1 ≠ I + 1) ∧ (∀ p, p ∈ [(ax, srcO its k)] ++ news → p.1 ≠ I + 1) ∧ (∀ p, p ∈ ((I + 1 : Addr), LCg.lst ys) :: news → p.1 ≠ I + 2) :=
  ⟨allC (gtNe (Nat.lt_add_of_pos_right (by decide))) (allC (gtNe (Nat.lt_add_of_pos_right (by decide))) (allC (gtNe (Nat.lt_add_of_pos_right (by decide))) (allC (ltNe hax) fun p hp => (off p hp).1))),
   allC (ltNe (Nat.lt_add_of_pos_right (by decide))) (allC (ltNe (Nat.add_lt_add_left (by decide) I)) allN),
   allC (ltNe (Nat.add_lt_add_left (by decide) I)) (allC (ltNe (Nat.lt_add_right 3 hax)) fun p hp => (off p hp).2.2.1),
   allC (ltNe (Nat.lt_add_of_pos_right (by decide))) (allC (gtNe (Nat.add_lt_add_left (by decide) I)) (allC (gtNe (Nat.add_lt_add_left (by decide) I)) allN)),
   allC (ltNe (Nat.lt_add_right 1 hax)) fun p hp => (off p hp).2.2.2.1,
   allC (ltNe (Nat.add_lt_add_left (by decide) I)) fun p hp => (off p hp).2.1⟩
/-- the loop of a comprehension whose variable is a cell -/
theorem loop_C {elt iter : Expr} {x : Str} {px : Pos} {scope : Scope} {pos : Pos} {RR : Result → Shared → Prop} {s₁ s₃ : Shared} {ax I : Addr} {its : Array Value} {k : Nat} {Inv : Nat → List Value → List (Addr × Obj) → Prop} (hh : A.handled = none) (hkind : scope.kind = .function) (hx : (relabel scope env).names.lookup x = some .cell)
    (hLlt : @LT.lt Nat _ L I) (hax : @LT.lt Nat _ ax I) (fresh₀ : ∀ a, @LE.le Nat _ I a → h₀.get? a = none) (hsz : its.size ≤ 1000)
    (step : StepC prog w A h₀ L m env elt x scope Inv ax its k s₁)
    (fin : ∀ h tk ys news' oc, Fr h₀ L h m → News h₀ L h ((I + 2, oDict) :: (I + 3, oc) :: (I + 1, LCg.lst ys) :: (ax, srcO its k) :: news') → Off4 I (I + 2) (I + 3) (I + 1) ax news' → Inv its.size ys news' → RR (.ok .next) { s₁ with heap := h, toks := tk })
    (start : LoopC h₀ L m s₁ I ax its k Inv (its.size + 1) s₃) :
    codeAny (model prog w) A (.compLoop (.ListComp elt [⟨.Name x px, iter, [], 0⟩] scope pos) 0 (.ref I) (.ref (I + 1)) (compEnvC scope [(x, I + 3)] (I + 2) env)) RR s₃ := by
  have hsz9 : (1000000 : Nat) ≤ sizeLine := Nat.le_of_ble_eq_true (by decide +kernel)
  refine codeAny_compLoop_tests (LoopC h₀ L m s₁ I ax its k Inv) ?_ (its.size + 1) start
  rintro kk s' ⟨h', tk, i, ys, news', oI, oc, v₀, rfl, hi, rfl, hyl, hIc, hId, hcv, F', N', off', hInv⟩
  have hit : h'.IsListIter I ax i := ⟨oI, (N' _ (.head _)).1, hIc, hId⟩
  have hitems : Items h' ax its := ⟨_, k, (N' (ax, srcO its k) (.tail _ (.tail _ (.tail _ (.tail _ (.head _)))))).1, rfl⟩
  by_cases hlt' : i < its.size
  · refine next_item hit hitems (v := its[i]) (by simp [hlt']) fun h₂ hit₂ sb₂ => ?_
    obtain ⟨oI₂, eI₂, hIc₂, hId₂⟩ := hit₂
    have k₂ : ∀ b o, b ≠ I → h'.get? b = some o → h₂.get? b = some o := fun b o hb e => sb₂.extBut b o hb e
    have F₂ := frSet F' (N' _ (.head _)).2 k₂
    have N₂ : News h₀ L h₂ (led5 I (I + 2) (I + 3) (I + 1) ax oI₂ oDict oc ys its k news') := newsSet (l1 := []) N' k₂ eI₂ allN (apart5 hax off' (oI := oI)).1
    clear N' F' k₂ sb₂ hit hitems
    refine wpAny_assign_Name (wpAny_storeName_cell (c := I + 3) (v₀ := v₀) hkind hx (by simp [compEnvC]) ⟨oc, (N₂ _ (.tail _ (.tail _ (.head _)))).1, hcv⟩ fun h₃ hc₃ sb₃ => ?_)
    obtain ⟨oc₃, ec₃, hcv₃⟩ := hc₃
    have k₃ : ∀ b o, b ≠ I + 3 → h₂.get? b = some o → h₃.get? b = some o := fun b o hb e => sb₃.extBut b o hb e
    have F₃ := frSet F₂ (N₂ _ (.tail _ (.tail _ (.head _)))).2 k₃
    have N₃ : News h₀ L h₃ (led5 I (I + 2) (I + 3) (I + 1) ax oI₂ oDict oc₃ ys its k news') := newsSet (l1 := [_, _]) N₂ k₃ ec₃ (apart5 (its := its) (k := k) (ys := ys) (oc := oc) hax off').2.1 (apart5 (oI := oI) (oc := oc) hax off').2.2.1
    clear N₂ F₂ k₃ sb₃
    refine wpAny_tests_nil ?_
    simp only [if_true]
    refine wpAny_mono (step i its[i] ys news' I oI₂ (I + 2) _ (I + 3) oc₃ (I + 1) h₃ _ _ (by simp [hlt']) hInv hcv₃ F₃ N₃ off') (fun y s₄ h₄ => ?_) fun _ _ e => e
    clear F₃ N₃
    obtain ⟨h₄, tk₄, news₄, rfl, F₄, N₄, off₄, hInv₄⟩ := h₄
    refine append_at (hsz := by show ys.toArray.size ≤ sizeLine; rw [List.size_toArray, hyl]; omega) (N₄ _ (.tail _ (.tail _ (.tail _ (.head _))))).1 fun h₅ sb₅ hD₅ => ?_
    have k₅ : ∀ b o, b ≠ I + 1 → h₄.get? b = some o → h₅.get? b = some o := fun b o hb e => sb₅.extBut b o hb e
    exact ⟨its.size + 1 - (i + 1), subA ‹i < its.size›, h₅, tk₄, i + 1, ys ++ [y], news₄, oI₂, oc₃, some its[i], rfl, hlt', rfl, by rw [List.length_append, List.length_singleton, hyl], hIc₂, hId₂, hcv₃, frSet F₄ (N₄ _ (.tail _ (.tail _ (.tail _ (.head _))))).2 k₅,
      newsSet (l1 := [_, _, _]) N₄ k₅ (hD₅.trans (congrArg some (LCg.lst_snoc ys y))) (apart5 (its := its) (k := k) (ys := ys) hax off₄).2.2.2.1 (apart5 (oI := oI) (oc := oc) (ys := ys) hax off₄).2.2.2.2.1, off₄, hInv₄⟩
  · obtain rfl : i = its.size := Nat.le_antisymm hi (Nat.not_lt.mp hlt')
    refine next_end hh hit hitems (by simp) fun h₂ sb₂ => ?_
    have k₂ : ∀ b o, b ≠ I → h'.get? b = some o → h₂.get? b = some o := fun b o hb e => sb₂ b o hb e
    have ap := (apart5 (its := its) (k := k) (ys := ys) (oc := oc) (oI := oI) hax off').1
    exact fin h₂ _ ys news' oc (frSet F' (N' _ (.head _)).2 k₂) (fun p hp => ⟨k₂ _ _ (ap p hp) (N' p (.tail _ hp)).1, (N' p (.tail _ hp)).2⟩) off' hInv
/-- a comprehension over a list, whose variable is a cell -/
theorem ListComp_C {elt iter : Expr} {x : Str} {px : Pos} {scope : Scope} {pos : Pos} {Q : Value → Shared → Prop} (hh : A.handled = none) (_F₀ : Fr h₀ L s.heap m)
    (hclos : closureFor scope env = pure []) (hkind : scope.kind = .function) (hnames : ∀ y ∈ scope.names, y.2 = .local → scope.names.lookup y.1 = some .local)
    (hcf : ∀ n, cellsFrom n scope.names [] = [(x, n)]) (hpc : ∀ h, pushCells h scope.names = h.push (cellO none)) (hx : (relabel scope env).names.lookup x = some .cell)
    (Inv : Nat → List Value → List (Addr × Obj) → Prop)
    (h : wpAny (model prog w) A (eval iter env) (SrcC prog w A h₀ L m env elt x scope Inv Q) E s)
    (hs : ∀ x, foldedSetIterable iter env x = pure x) :
    wpAny (model prog w) A (eval (.ListComp elt [⟨.Name x px, iter, [], 0⟩] scope pos) env) Q E s := by
  rw [eval_ListComp]
  refine wpAny_comprehension_free (use := none) rfl hs hclos hkind hnames (wpAny_mono h (fun xv s₁ h₁ => ?_) fun _ _ e => e)
  obtain ⟨ax, its, k, news, rfl, F, N, hsz, hax, hI0, step, fin⟩ := h₁
  have hlt : ax < s₁.heap.objs.size := Heap.lt_size (N _ (.head _)).1
  refine wpAny_pyIter_list ⟨_, (N _ (.head _)).1, rfl, _, rfl⟩ ?_
  refine wpAny_newObj_type ?_
  refine newEnv_cell hcf hpc ?_
  generalize hIo : ({ cls := .type "list_iterator", data := .fields #[.ref ax, .int 0 0] } : Obj) = oI0
  have e1 : (s₁.heap.push oI0).objs.size = s₁.heap.objs.size + 1 := Heap.size_push ..
  have e2 : ((s₁.heap.push oI0).push (LCg.lst [])).objs.size = s₁.heap.objs.size + 2 := by rw [Heap.size_push, e1]
  have e3 : (((s₁.heap.push oI0).push (LCg.lst [])).push oDict).objs.size = s₁.heap.objs.size + 3 := by rw [Heap.size_push, e2]
  show codeAny _ _ (.compStart _ 0 (.ref s₁.heap.objs.size) (.ref (s₁.heap.push oI0).objs.size) (compEnvC scope [(x, ((s₁.heap.push oI0).push (LCg.lst [])).objs.size + 1)] ((s₁.heap.push oI0).push (LCg.lst [])).objs.size env)) (compPost _ A E none Q (.ref (s₁.heap.push oI0).objs.size) ((s₁.heap.push oI0).push (LCg.lst [])).objs.size) { s₁ with heap := (((s₁.heap.push oI0).push (LCg.lst [])).push oDict).push (cellO none) }
  rw [e1, e2]
  have up : ∀ {H : Heap} {o : Obj} b q, H.get? b = some q → (H.push o).get? b = some q := fun b q e => Heap.get?_push_of_some _ e
  have old : ∀ b o, s₁.heap.get? b = some o → ((((s₁.heap.push oI0).push (LCg.lst [])).push oDict).push (cellO none)).get? b = some o := fun b o e => up _ _ (up _ _ (up _ _ (up _ _ e)))
  have gI := up (o := cellO none) _ _ (up (o := oDict) _ _ (up (o := LCg.lst []) _ _ (Heap.get?_push_size s₁.heap (o := oI0) (by rw [← hIo]; rfl))))
  have gD := up (o := cellO none) _ _ (up (o := oDict) _ _ (Heap.get?_push_size (s₁.heap.push oI0) (o := LCg.lst []) rfl))
  have gC := up (o := cellO none) _ _ (Heap.get?_push_size ((s₁.heap.push oI0).push (LCg.lst [])) (o := oDict) rfl)
  have gc := Heap.get?_push_size (((s₁.heap.push oI0).push (LCg.lst [])).push oDict) (o := cellO none) rfl
  rw [e1] at gD
  rw [e2] at gC
  rw [e3] at gc
  generalize (((s₁.heap.push oI0).push (LCg.lst [])).push oDict).push (cellO none) = h₁ at *
  clear e1 e2 e3 up
  have hLlt : @LT.lt Nat _ L s₁.heap.objs.size := F.ns.lt
  have fresh₀ : ∀ a, @LE.le Nat _ s₁.heap.objs.size a → h₀.get? a = none := fun a ha => by
    cases e : h₀.get? a with
    | none => rfl
    | some o' => exact absurd (Heap.lt_size (F.keep a o' e)) (Nat.not_lt.mpr ha)
  have nwlt : ∀ p ∈ news, @LT.lt Nat _ p.1 s₁.heap.objs.size := fun p hp => Heap.lt_size (N p (.tail _ hp)).1
  generalize s₁.heap.objs.size = I at *
  have off0 : Off4 I (I + 2) (I + 3) (I + 1) ax news := fun p hp => ⟨ltNe (nwlt p hp), ltNe (Nat.lt_add_right 2 (nwlt p hp)), ltNe (Nat.lt_add_right 3 (nwlt p hp)), ltNe (Nat.lt_add_right 1 (nwlt p hp)), hax p hp⟩
  have F₁ : Fr h₀ L h₁ m := F.keeps old
  have N₁ : News h₀ L h₁ (led5 I (I + 2) (I + 3) (I + 1) ax oI0 oDict (cellO none) [] its k news) :=
    allC ⟨gI, gtNe hLlt, fresh₀ _ (Nat.le_refl _)⟩ (allC ⟨gC, gtNe (Nat.lt_add_right 2 hLlt), fresh₀ _ (Nat.le_add_right _ 2)⟩ (allC ⟨gc, gtNe (Nat.lt_add_right 3 hLlt), fresh₀ _ (Nat.le_add_right _ 3)⟩ (allC ⟨gD, gtNe (Nat.lt_add_right 1 hLlt), fresh₀ _ (Nat.le_add_right _ 1)⟩
      fun p hp => ⟨old _ _ (N p hp).1, (N p hp).2⟩)))
  have loop := loop_C (elt := elt) (iter := iter) (px := px) (pos := pos) (x := x) (scope := scope) (env := env) (RR := compPost (model prog w) A E none Q (.ref (I + 1)) (I + 2)) hh hkind hx hLlt hlt fresh₀ hsz step (fun h₂ tk₂ ys news' oc F₂ N₂ off' hInv => ⟨fun _ => none, ⟨_, #[], 0, (N₂ _ (.head _)).1, rfl, fun e he => absurd he (by simp), fun _ => rfl⟩, fun h'' sb =>
      fin (I + 1) h'' _ ys news' (F₂.change sb (gtNe (Nat.lt_add_right 2 hLlt)) (fresh₀ _ (Nat.le_add_right _ 2)))
        (allC ⟨sb.extBut _ _ (ltNe (Nat.add_lt_add_left (by decide) I)) (N₂ _ (.tail _ (.tail _ (.head _)))).1, (N₂ _ (.tail _ (.tail _ (.head _)))).2⟩ fun p hp => ⟨sb.extBut _ _ (off' p hp).2.1 (N₂ _ (.tail _ (.tail _ (.tail _ (.tail _ hp))))).1, (N₂ _ (.tail _ (.tail _ (.tail _ (.tail _ hp))))).2⟩)
        (fun p hp => (off' p hp).2.2.2.1) hInv⟩)
    (⟨h₁, _, 0, [], news, oI0, cellO none, none, rfl, Nat.zero_le _, rfl, rfl, by rw [← hIo], by rw [← hIo]; rfl, rfl, F₁, N₁, off0, hI0⟩ : LoopC h₀ L m s₁ I ax its k Inv (its.size + 1) { s₁ with heap := h₁ })
  exact codeAny_compStart_list loop (wpAny_pyIter_listiter (l := ax) (i := 0) ⟨oI0, (N₁ _ (.head _)).1, by rw [← hIo], by rw [← hIo]; rfl⟩ loop)
end
end
section -- H1
set_option maxHeartbeats 1000000
open PyProof.Rows.LCg
theorem words_H1_1 : True := by
  k_with_none
  w_top off
  k_with "m_enterC" => ((
  (have Xᵥ := Base.K (by assumption)); (have Tᵥ := Base.T (by assumption)); revert Tᵥ; revert Xᵥ; k_fill; intro _ _
  k_dflt (refine' enterC ?k1ᵥ ?k2ᵥ ?k3ᵥ ?k4ᵥ ?k5ᵥ ?k6ᵥ ?k7ᵥ ?k8ᵥ ?k9ᵥ ?k10ᵥ ?_; (case k1ᵥ => assumption); (case k2ᵥ => exact Room.depth (by assumption)); (case k3ᵥ => k_is); (case k4ᵥ => k_is); (case k5ᵥ => first | exact BindsTo.of_eq rfl | exact binds_K (by k_in) rfl (by k_is) rfl rfl rfl | fail "m_enter: no rule for these arguments"); (case k6ᵥ => exact rfl); (case k7ᵥ => decide +kernel); (case k8ᵥ => exact rfl); (case k9ᵥ => exact rfl); (case k10ᵥ => exact rfl); k_whole; intro _ _ _ _ _ N'ᵥ Y'ᵥ; k_cells Y'ᵥ; (try simp only [List.cons_append, List.nil_append] at N'ᵥ); (try dsimp only); (try k_fold)))); (try (revert N'ᵥ; intro _)); (try (revert Y'ᵥ; intro _))
  trivial
theorem StrsAre.take {vs : List Value} {xs : List Str} (h : StrsAre vs xs) : ∀ n, StrsAre (vs.take n) (xs.take n) := by
  induction h with
  | nil => intro n; rw [List.take_nil, List.take_nil]; exact .nil
  | cons y t _ ih =>
    intro n
    cases n with
    | zero => exact .nil
    | succ n => exact .cons _ _ (ih n)
section
variable {prog : Program} {w : World} {A : Around} {E : Value → Shared → Prop} {s : Shared} {h₀ : Heap} {L : Addr} {m : PySem.Str → Option Value} {news : List (Addr × Obj)} {Q : Value → Shared → Prop}
theorem m_split {x y : PySem.Str} {t u : Tok} {ls : List Str} (hF : Fr h₀ L s.heap m) (hN : News h₀ L s.heap news) (hs : Txt.split x y = ls) (hy : (y.length == 0) = false) (hz : x.length ≤ 1000)
    (h : ∀ D vs h' k, StrsAre vs ls → Fr h₀ L h' m → News h₀ L h' ((D, W.listOf vs.toArray 0) :: news) → (∀ p ∈ news, p.1 < D) → Q (.ref D) { s with heap := h', toks := k }) :
    wpAny (model prog w) A (call (.builtin "str.split") [.str x t, .str y u]) Q E s := by
  have hsz : (1000000 : Nat) ≤ sizeLine := Nat.le_of_ble_eq_true (by decide +kernel)
  exact KSpl.split1 hF hN hy (fun D l h' k e a F' N' l1 => h D _ h' k (by rw [← hs, ← e]; exact a) F' N' l1) (by omega)
theorem slice_end (n : Nat) : max 0 (min (-1 + (n : Int)) (n : Int)) = ((n - 1 : Nat) : Int) := by
  cases n with
  | zero => decide
  | succ n =>
    have e : -1 + ((n + 1 : Nat) : Int) = (n : Int) := by omega
    rw [e, Int.min_eq_left (Int.ofNat_le.mpr (Nat.le_succ n)), Int.max_eq_right (Int.natCast_nonneg n)]
    rfl
theorem m_slice_strs {value slice : Expr} {l : Addr} {vs : List Value} {xs : List Str} {ops : List Value} {tu : Tok} (F : Fr h₀ L s.heap m) (N : News h₀ L s.heap news) (hl : s.heap.IsList l vs.toArray) (hI : StrsAre vs xs)
    (h : ∀ D ws h', Fr h₀ L h' m → News h₀ L h' ((D, W.listOf ws.toArray 0) :: news) → (∀ p ∈ news, p.1 < D) → StrsAre ws (xs.take (xs.length - 1)) → Q (.ref D) { s with heap := h' })
    (hs : subscripted slice false (.ref l) (.ref s.heap.objs.size) = operate ops (getItem (.ref l) (.ref s.heap.objs.size))) (ht : ∀ r, letTemporaryGo value (.ref l) r = pure ()) (hz : xs.length ≤ 1000) :
    wpAny (model prog w) A (subscriptTail value slice (.ref l) (.ref s.heap.objs.size)) Q E { s with heap := s.heap.push { cls := .type "slice", data := .fields #[.none, .int (-1) tu, .none] } } := by
  have hsz : (1000000 : Nat) ≤ sizeLine := Nat.le_of_ble_eq_true (by decide +kernel)
  have hlen := StrsAre.len hI
  refine slice_list3 F N hl IsPart.none (IsPart.int (-1) tu) IsPart.none (by intro e; cases e) (fun h' F' N' => h _ (slicePick vs.toArray none (some (-1)) none).toList h' F' ?_ (fun p hp => Nat.lt_succ_of_lt (Heap.lt_size (N p hp).1)) ?_) hs ht (by rw [List.size_toArray]; omega)
  · rw [Array.toArray_toList]
    exact N'
  · have e : sliceBounds none (some (-1)) none vs.toArray.size = (((0 : Nat) : Int), ((vs.toArray.size - 1 : Nat) : Int), 1) := by
      simp only [sliceBounds, Option.getD_none, show (1 : Int) > 0 by decide, if_true]
      congr 1
      congr 1
      simpa using slice_end vs.length
    rw [kmk_pick_nat _ e]
    show StrsAre ((vs.drop 0).take (vs.toArray.size - 1 - 0)) _
    rw [List.drop_zero, Nat.sub_zero, List.size_toArray, hlen]
    exact StrsAre.take hI _
end
noncomputable def lens (xs : List Str) : List Int := xs.map fun l => (l.length : Int) - 1
theorem words_H1_2 : True := by
  k_with "call builtin:str.split" => ((refine m_split (by k_asm) (by k_asm) (by assumption) (by decide) (by assumption) ?_; intro _ _ _ _ _ _ _ l1ᵥ; (try k_lt l1ᵥ))); (try (revert l1ᵥ; intro _))
  k_with "subscriptTail Name Slice ref ref" => ((k_here; (with_reducible show wpAny _ _ (subscriptTail _ (PySem.Expr.Slice none (some _) none _) (Value.ref _) (Value.ref _)) _ _ _); k_dflt (refine' m_slice_strs ?Fᵥ ?Nᵥ ?lᵥ ?iᵥ ?_ ?sᵥ ?tᵥ ?zᵥ; (case Fᵥ => k_asm); (case Nᵥ => k_asm); (case lᵥ => kmk_list); (case iᵥ => assumption); (case sᵥ => with_unfolding_all rfl); (case tᵥ => kmk_pure); (case zᵥ => assumption)); intro _ _ _ _ _ l1ᵥ _; (try k_lt l1ᵥ); (try k_sweep))); (try (revert l1ᵥ; intro _))
  k_with "eval ListComp" => ((lcg_look; with_unfolding_all refine LCg.ListComp_U (F₀ := by k_asm) (by with_unfolding_all rfl) (by decide) (by rfl) (by decide) (by rfl) ?_))
  k_with "CompSrc" => ((refine unstop ?_))
  k_with "eval ListComp" => (((with_reducible show wpAny _ _ (eval (Expr.ListComp _ [_, _] _ _) _) _ _ _); refine unstop ?_))
  trivial
theorem lens_snoc {xs : List Str} {i : Nat} {l : Str} (h : xs[i]? = some l) : lens (xs.take (i + 1)) = lens (xs.take i) ++ [(l.length : Int) - 1] := by
  unfold lens
  rw [List.take_add_one, h]
  simp
noncomputable def rowH (lx ly : List Int) (i j : Nat) : List Int := (List.range j).map fun (c : Nat) => lx.getD i 0 - (c : Int) + ly.getD c 0 - ((lx.length : Int) - (i : Int))
noncomputable def firstH (lx ly : List Int) (i : Nat) : List Int := (List.range i).flatMap fun a => rowH lx ly a (lx.getD a 0).toNat
theorem fn_hooks (w : World) (mean : ExcName → Option Value) (mg mb : Str → Option Value) (x y : Str) (tx ty : Tok) (xs ys : List Str) (hx : Txt.split x (Str.ofString "\n") = xs) (hy : Txt.split y (Str.ofString "\n") = ys) (zx : x.length ≤ 1000) (zy : y.length ≤ 1000) (nx : xs.length ≤ 1000) (ny : ys.length ≤ 1000) (lx : ∀ l ∈ xs, l.length ≤ 1000) (ly : ∀ l ∈ ys, l.length ≤ 1000)
   (kx : (lens (xs.take (xs.length - 1))).length ≤ 8) (kxy : ∀ a ∈ lens (xs.take (xs.length - 1)), 0 ≤ a ∧ a ≤ ((lens (ys.take (ys.length - 1))).reverse.length : Int)) (ky : (lens (ys.take (ys.length - 1))).reverse.length ≤ 8) :
   Fn w mean mg mb 10 295 [.str x tx, .str y ty] (fun _ => True) (fun h v h' => ∃ zs, NewL h v h' zs ∧ IntsAre zs (firstH (lens (xs.take (xs.length - 1))) (lens (ys.take (ys.length - 1))).reverse (lens (xs.take (xs.length - 1))).length)) := by
  refine Fn.intro fun dp fr gd un g gs dr tk os Q E r B hp ret => ?_
  walk_at "m_enterC"
  (rename Fr _ _ _ _ => F00); (have F01 := (show Fr g _ _ (fun z => if z = Str.ofString "second" then some (.str y ty) else if z = Str.ofString "first" then some (.str x tx) else none) from F00)); clear F00
  (rename _ = Data.cell _ => c0); (have c1 := (show _ = Data.cell none from c0)); clear c0
  (rename _ = Data.cell (bindC _ _ _ _) => c0); (have c2 := (show _ = Data.cell none from c0)); clear c0
  k_steps
  unfold Stop
  (rename StrsAre _ (List.take _ _) => hS); (rename News _ _ _ _ => N0)
  refine LCg.CompSrc.ledger rfl (by k_asm) N0 (.head _) (by rw [List.size_toArray, StrsAre.len hS]; exact Nat.le_trans (Nat.le_trans (List.length_take_le' _ _) nx) (Nat.le_of_ble_eq_true (by decide +kernel))) ?_
  intro g'
  refine CRest.indF (fun i zs => IntsAre zs (lens ((xs.take (xs.length - 1)).take i))) ?fin1 ?step1 .nil
  case step1 =>
    rintro i zs hi hI v I oI C oC D m₂ h tk E' hP hoC hx' F N off ne
    obtain ⟨l, t, e1, rfl⟩ := StrsAre.get hS (by simpa using hP)
    have hl := lx l (List.mem_of_mem_take (List.mem_of_getElem? e1))
    k_steps
    exact LCg.CompEnd.intro F N _ (fun p hp => hp) off (.inr ⟨_, .head _, rfl, _, rfl⟩) ⟨rfl, by rw [lens_snoc e1]; exact IntsAre.snoc hI _ _⟩
  case fin1 =>
    rintro zs hI
    intro D h tk F N o1
    clear N0
    simp only [LCg.Off1, and_true] at o1
    obtain ⟨p1, p2, q3, q4⟩ := o1
    replace N := News.sub (ns := [(_, _), (_, _), (_, _)]) N (fun p hp => (List.mem_cons.mp hp).elim (fun e => e ▸ .head _) fun hp => .tail _ (.tail _ (.tail _ hp)))
    k_steps
    unfold Stop
    clear p1 p2
    (rename StrsAre _ (List.take _ ys) => hS2); (rename News _ _ _ _ => N0)
    refine LCg.CompSrc.ledger rfl (by k_asm) N0 (.head _) (by rw [List.size_toArray, StrsAre.len hS2]; exact Nat.le_trans (Nat.le_trans (List.length_take_le' _ _) ny) (Nat.le_of_ble_eq_true (by decide +kernel))) ?_
    intro g2
    refine CRest.indF (fun i zs => IntsAre zs (lens ((ys.take (ys.length - 1)).take i))) ?fin2 ?step2 .nil
    case step2 =>
      rintro i zs hi hI2 v I oI C oC D m₂ h tk E' hP hoC hx' F N off ne
      obtain ⟨l, t, e1, rfl⟩ := StrsAre.get hS2 (by simpa using hP)
      have hl := ly l (List.mem_of_mem_take (List.mem_of_getElem? e1))
      k_steps
      exact LCg.CompEnd.intro F N _ (fun p hp => hp) off (.inr ⟨_, .head _, rfl, _, rfl⟩) ⟨rfl, by rw [lens_snoc e1]; exact IntsAre.snoc hI2 _ _⟩
    case fin2 =>
      rintro zs2 hI2
      intro D2 h tk F N o1
      clear N0
      simp only [LCg.Off1, and_true] at o1
      obtain ⟨p1, p2, p3, p4, p5⟩ := o1
      rw [List.take_of_length_le (by rw [← StrsAre.len hS2]; simp)] at hI2
      rw [List.take_of_length_le (by rw [← StrsAre.len hS]; simp)] at hI
      have kl2 : (lens (ys.take (ys.length - 1))).length ≤ 1000 := by simp [lens]; omega
      clear hS hS2
      k_steps
      unfold Stop
      generalize elx : lens (xs.take (xs.length - 1)) = lx at *
      generalize ely : (lens (ys.take (ys.length - 1))).reverse = ly at *
      (rename Fr _ _ _ _ => F3)
      refine cc_ListComp F3 rfl (by intro _ _; rfl) (by with_unfolding_all rfl) (by decide) rfl (by decide) rfl rfl rfl ?_ (by intro _; rfl)
      have kz1 := hI.length
      (rename News _ _ _ _ => N3)
      replace N3 := News.sub (ns := [(_, _), (D, LCg.lst zs), (_, _), (_, _)]) N3 (fun p hp => (List.mem_cons.mp hp).elim (fun e => e ▸ .head _) fun hp => .tail _ (.tail _ (.tail _ (.tail _ hp))))
      k_steps
      (rename Fr _ _ _ _ => F1); (rename News _ _ _ _ => N1); (rename IsRange _ _ _ _ _ _ _ _ => hR)
      refine .rng _ 0 _ _ _ _ lx.length _ rfl F1 N1 hR (range_ok _ (by omega)).1 (range_ok _ (by omega)).2 ?_
      rintro s₂ ⟨h₂, rfl⟩
      refine Rest1.indF (fun i zs => zs.length ≤ 8 * i ∧ IntsAre zs (firstH lx ly i)) ?fin3 ?step3 ⟨Nat.le_refl _, .nil⟩
      case fin3 =>
        rintro zs3 hI3
        intro D3 h tk F N o1
        subst elx ely
        exact ret _ _ _ F.keep ⟨zs3, ⟨D3, _, rfl, (N _ (.head _)).2.2, (N _ (.head _)).1⟩, hI3.2⟩
      case step3 =>
        rintro i zs3 hi hl3 v I oI C oC D9 m₂ h tk E' ⟨tv, rfl⟩ hoC hx' F N off ne
        obtain ⟨h0, h1⟩ := kxy (lx.getD i 0) (by rw [List.getD_eq_getElem?_getD, List.getElem?_eq_getElem hi]; exact List.getElem_mem _)
        obtain ⟨b, hb⟩ := Int.eq_ofNat_of_zero_le h0
        have hbl : b ≤ ly.length := Int.ofNat_le.mp (hb ▸ h1)
        have hb8 : b ≤ 8 := Nat.le_trans hbl ky
        have hi8 : i < 8 := Nat.lt_of_lt_of_le hi kx
        clear N1 F1 hR h0 h1
        k_steps
        (rename Fr _ _ _ _ => F1); (rename News _ _ _ _ => N1); (rename IsRange _ _ _ _ _ _ _ _ => hR)
        have hq : lx.getD (0 + (i : Int)).toNat 0 = (b : Int) := by rw [tn0]; exact hb
        rw [hq] at hR
        refine ⟨_, _, _, rfl, F1, N1, off, trivial, .rng _ 0 _ _ _ _ b rfl hR (range_ok _ (by omega)).1 (range_ok _ (by omega)).2 ?_ ?_⟩
        · have hsz : (1000000 : Nat) ≤ sizeLine := Nat.le_of_ble_eq_true (by decide +kernel)
          omega
        refine Rest2.indF (fun j zs => zs.length ≤ 8 * i + j ∧ IntsAre zs (firstH lx ly i ++ rowH lx ly i j)) ?fin4 ?step4 ⟨hl3.1, by simpa [rowH] using hl3.2⟩
        case fin4 =>
          rintro zs hl
          refine ⟨rfl, by omega, ?_⟩
          have e : firstH lx ly (i + 1) = firstH lx ly i ++ rowH lx ly i b := by
            unfold firstH
            rw [List.range_succ, List.flatMap_append, List.flatMap_singleton, hb]
            rfl
          rw [e]; exact hl.2
        case step4 =>
          clear N1 F1 hR off ne hl3 hoC hx'
          rintro j zs4 hj hl4 v' J oJ I oI C oC D9 m₂ h tk E' ⟨tv', rfl⟩ hoC hx hy F N off offJ ne
          obtain ⟨ne1, ne2, ne3, ne4, ne5, ne6⟩ := ne
          refine wpAny_tests_nil ?_
          simp only [if_true]
          k_steps
          (rename Fr _ _ _ _ => F2); (rename News _ _ _ _ => N2)
          refine End2.of _ F2 N2 (fun p hp => hp) off offJ trivial ⟨rfl, by omega, ?_⟩
          have e : rowH lx ly i (j + 1) = rowH lx ly i j ++ [lx.getD i 0 - (j : Int) + ly.getD j 0 - ((lx.length : Int) - (i : Int))] := by
            unfold rowH
            rw [List.range_succ, List.map_append]; rfl
          rw [e, ← List.append_assoc]
          simp only [tn0, Int.zero_add]
          exact IntsAre.snoc hl4.2 _ _
end
section -- A38
set_option maxHeartbeats 600000
noncomputable abbrev scL : Scope := { kind := ScopeKind.function, names := [(Str.ofString ".0", NameKind.local), (Str.ofString "line", NameKind.cell), (Str.ofString "range", NameKind.globalImplicit), (Str.ofString "len", NameKind.globalImplicit)], isGenerator := false, isCoroutine := false }
noncomputable abbrev sc256 : Scope := ({ kind := ScopeKind.function, names := [(Str.ofString "cells", NameKind.local), (Str.ofString "many", NameKind.local), (Str.ofString "left", NameKind.local), (Str.ofString "folder", NameKind.local), (Str.ofString "cell", NameKind.local), (Str.ofString "page", NameKind.local), (Str.ofString "_ValueFormatter", NameKind.globalImplicit)], isGenerator := false, isCoroutine := false, more := [(Str.ofString "fast", Const.str (Str.ofString "cells")), (Str.ofString "fast", Const.str (Str.ofString "many")), (Str.ofString "fast", Const.str (Str.ofString "left")), (Str.ofString "fast", Const.str (Str.ofString "folder")), (Str.ofString "fast", Const.str (Str.ofString "cell")), (Str.ofString "fast", Const.str (Str.ofString "page")), (Str.ofString "fast", Const.str (Str.ofString "line")), (Str.ofString "fast", Const.str (Str.ofString "c"))] } : Scope)
noncomputable abbrev en256 (L : Addr) : Env := envOf (Str.ofString "_law_fold") sc256 L 256 (.ref 255)
noncomputable abbrev elL : Expr := (((Expr.Name (Str.ofString "line") { line := 146, col := 13, endLine := 146, endCol := 17 }).Subscript (Expr.Slice (some (((Expr.Constant (Const.int 9) 0 { line := 146, col := 18, endLine := 146, endCol := 19 }).BinOp Operator.Mult (Expr.Name (Str.ofString "c") { line := 146, col := 22, endLine := 146, endCol := 23 }) { line := 146, col := 18, endLine := 146, endCol := 23 }).BinOp Operator.Add (Expr.Constant (Const.int 1) 0 { line := 146, col := 26, endLine := 146, endCol := 27 }) { line := 146, col := 18, endLine := 146, endCol := 27 })) (some (((Expr.Constant (Const.int 9) 0 { line := 146, col := 28, endLine := 146, endCol := 29 }).BinOp Operator.Mult (Expr.Name (Str.ofString "c") { line := 146, col := 32, endLine := 146, endCol := 33 }) { line := 146, col := 28, endLine := 146, endCol := 33 }).BinOp Operator.Add (Expr.Constant (Const.int 9) 0 { line := 146, col := 36, endLine := 146, endCol := 37 }) { line := 146, col := 28, endLine := 146, endCol := 37 })) none { line := 146, col := 18, endLine := 146, endCol := 37 }) { line := 146, col := 13, endLine := 146, endCol := 38 }).ListComp [{ target := Expr.Name (Str.ofString "c") { line := 146, col := 43, endLine := 146, endCol := 44 }, iter := (Expr.Name (Str.ofString "range") { line := 146, col := 48, endLine := 146, endCol := 53 }).Call [((Expr.Name (Str.ofString "len") { line := 146, col := 54, endLine := 146, endCol := 57 }).Call [Expr.Name (Str.ofString "line") { line := 146, col := 58, endLine := 146, endCol := 62 }] [] { line := 146, col := 54, endLine := 146, endCol := 63 }).BinOp Operator.FloorDiv (Expr.Constant (Const.int 9) 0 { line := 146, col := 67, endLine := 146, endCol := 68 }) { line := 146, col := 54, endLine := 146, endCol := 68 }] [] { line := 146, col := 48, endLine := 146, endCol := 69 }, ifs := [], is_async := 0 }] { kind := ScopeKind.function, names := [(Str.ofString ".0", NameKind.local), (Str.ofString "c", NameKind.local), (Str.ofString "line", NameKind.free)], isGenerator := false, isCoroutine := false } { line := 146, col := 12, endLine := 146, endCol := 70 })
/-- a line, cut into its cells -/
noncomputable def cutAt (r : Str) (i : Nat) : Str := Txt.slice r (some (9 * (i : Int) + 1)) (some (9 * (i : Int) + 9))
noncomputable def cutR (r : Str) : List Str := (List.range (r.length / 9)).map (cutAt r)
theorem words_A38_1 : True := by
  k_with_none
  w_top off
  k_with "wpAt" => ((ks_step "attributeBase Call"; k_here; k_dflt (refine' a_node ?k1ᵥ ?k2ᵥ ?k3ᵥ ?k4ᵥ ?k5ᵥ ?k6ᵥ ?k7ᵥ ?k8ᵥ ?k9ᵥ ?k10ᵥ ?k11ᵥ ?k12ᵥ ?k13ᵥ ?k14ᵥ ?k15ᵥ ?k16ᵥ ?k17ᵥ ?k18ᵥ ?k19ᵥ ?k20ᵥ ?k21ᵥ ?k22ᵥ ?k23ᵥ ?_; (case k1ᵥ => k_asm); (case k2ᵥ => k_in); (case k3ᵥ => k_asm); (case k4ᵥ => exact Base.T (by assumption)); (case k5ᵥ => k_is); (case k6ᵥ => rfl); (case k7ᵥ => rfl); (case k8ᵥ => k_mem); (case k9ᵥ => k_mem); (case k10ᵥ => k_is); (case k11ᵥ => rfl); (case k12ᵥ => first | rfl | decide +kernel); (case k13ᵥ => k_is); (case k14ᵥ => k_is); (case k15ᵥ => k_is); (case k16ᵥ => k_is); (case k17ᵥ => decide); (case k18ᵥ => rfl); (case k19ᵥ => rfl); (case k20ᵥ => rfl); (case k21ᵥ => rfl); (case k22ᵥ => decide +kernel); (case k23ᵥ => first | boot_by_name | rfl | kernel_rfl); intro _ _ _ _ l1ᵥ; (try k_lt l1ᵥ)))); (try (revert l1ᵥ; intro _))
  k_with "getMethod ref" => ((k_here; k_dflt (refine' sup_methodN ?k1ᵥ ?k2ᵥ ?k3ᵥ ?k4ᵥ ?k5ᵥ ?k6ᵥ ?k7ᵥ ?k8ᵥ ?k9ᵥ ?k10ᵥ ?k11ᵥ ?k12ᵥ ?k13ᵥ ?k14ᵥ ?k15ᵥ ?_; (case k1ᵥ => k_asm); (case k2ᵥ => k_in); (case k3ᵥ => k_asm); (case k4ᵥ => k_mem); (case k5ᵥ => k_mem); (case k6ᵥ => k_is); (case k7ᵥ => ks_is); (case k8ᵥ => decide); (case k9ᵥ => exact slot_wd_get); (case k10ᵥ => exact type_llen); (case k11ᵥ => exact entry_wd_get); (case k12ᵥ => exact args_wd_get); (case k13ᵥ => exact fun a b => wd_get a b (.inl ⟨rfl, rfl⟩)); (case k14ᵥ => exact rfl); (case k15ᵥ => kernel_rfl); intro _ _ _ _ l1ᵥ; (try k_lt l1ᵥ)))); (try (revert l1ᵥ; intro _))
  k_with "getMethod ref" => ((k_here; k_dflt (refine' sup_methodN ?k1ᵥ ?k2ᵥ ?k3ᵥ ?k4ᵥ ?k5ᵥ ?k6ᵥ ?k7ᵥ ?k8ᵥ ?k9ᵥ ?k10ᵥ ?k11ᵥ ?k12ᵥ ?k13ᵥ ?k14ᵥ ?k15ᵥ ?_; (case k1ᵥ => k_asm); (case k2ᵥ => k_in); (case k3ᵥ => k_asm); (case k4ᵥ => k_mem); (case k5ᵥ => k_mem); (case k6ᵥ => k_is); (case k7ᵥ => ks_is); (case k8ᵥ => decide); (case k9ᵥ => exact slot_wd_get); (case k10ᵥ => exact type_linit); (case k11ᵥ => exact entry_wd_get); (case k12ᵥ => exact args_wd_get); (case k13ᵥ => exact fun a b => wd_get a b (.inr ⟨rfl, rfl⟩)); (case k14ᵥ => exact rfl); (case k15ᵥ => kernel_rfl); intro _ _ _ _ l1ᵥ; (try k_lt l1ᵥ)))); (try (revert l1ᵥ; intro _))
  k_with "getMethod ref" => ((k_here; k_dflt (refine' sup_methodN ?k1ᵥ ?k2ᵥ ?k3ᵥ ?k4ᵥ ?k5ᵥ ?k6ᵥ ?k7ᵥ ?k8ᵥ ?k9ᵥ ?k10ᵥ ?k11ᵥ ?k12ᵥ ?k13ᵥ ?k14ᵥ ?k15ᵥ ?_; (case k1ᵥ => k_asm); (case k2ᵥ => k_in); (case k3ᵥ => k_asm); (case k4ᵥ => k_mem); (case k5ᵥ => k_mem); (case k6ᵥ => k_is); (case k7ᵥ => ks_is); (case k8ᵥ => decide); (case k9ᵥ => exact slot_md_get); (case k10ᵥ => exact type_pop); (case k11ᵥ => exact entry_md_get); (case k12ᵥ => exact args_md_get); (case k13ᵥ => exact fun a b => md_get a b); (case k14ᵥ => exact rfl); (case k15ᵥ => kernel_rfl); intro _ _ _ _ l1ᵥ; (try k_lt l1ᵥ)))); (try (revert l1ᵥ; intro _))
  k_with "callWith ref" => ((k_here; k_dflt (refine' callWith_bnd ?k1ᵥ ?k2ᵥ ?k3ᵥ ?_; (case k1ᵥ => k_asm); (case k2ᵥ => k_mem); (case k3ᵥ => first | exact .inl rfl | exact .inr rfl))))
  k_with "getMethod ref" => ((k_here; k_dflt (refine' a_methodN ?k1ᵥ ?k2ᵥ ?k3ᵥ ?k4ᵥ ?k5ᵥ ?k6ᵥ ?k7ᵥ ?k8ᵥ ?k9ᵥ ?_; (case k1ᵥ => k_asm); (case k2ᵥ => k_in); (case k3ᵥ => k_asm); (case k4ᵥ => k_mem); (case k5ᵥ => k_mem); (case k6ᵥ => k_is); (case k7ᵥ => k_is); (case k8ᵥ => first | exact .inl rfl | exact .inr rfl); (case k9ᵥ => exact rfl))))
  k_with "getAttr ref" => ((refine' a_getN ?k1ᵥ ?k2ᵥ ?k3ᵥ ?k4ᵥ ?k5ᵥ ?_; (case k1ᵥ => k_asm); (case k2ᵥ => k_in); (case k3ᵥ => k_asm); (case k4ᵥ => k_mem); (case k5ᵥ => k_mem)))
  k_with "call ref" => ((refine unstop ?_))
  trivial
theorem off1_mem {D : Addr} : ∀ {l : List (Addr × Obj)}, LCg.Off1 D l → ∀ p ∈ l, p.1 ≠ D
  | [], _, _, h => nomatch h
  | _ :: _, x, p, h => by
    rcases List.mem_cons.mp h with rfl | h
    · exact x.1
    · exact off1_mem x.2 p h
theorem words_A38_2 : True := by
  k_with "CompSrc" => ((refine unstop ?_))
  trivial
theorem fold_elt (w : World) (mean : ExcName → Option Value) (mg mb : Str → Option Value) (A : Around) (s : Shared) (Q E : Value → Shared → Prop) (h₀ : Heap) (L I C c D ax : Addr) (oI oC oc oD oa : Obj) (m : Str → Option Value) (news : List (Addr × Obj)) (r : Str) (tr : Tok) (rm : Room A 10) (B : Base w mean mg mb h₀) (F : Fr h₀ L s.heap m)
    (N : News h₀ L s.heap ((I, oI) :: (C, oC) :: (c, oc) :: (D, oD) :: (ax, oa) :: news)) (hc : oc.data = .cell (some (.str r tr))) (hr : r.length ≤ 100)
    (h : ∀ D' h' tk' zs, Fr h₀ L h' m → News h₀ L h' ((D', LCg.lst zs) :: (I, oI) :: (C, oC) :: (c, oc) :: (D, oD) :: (ax, oa) :: news) → (∀ p ∈ (I, oI) :: (C, oC) :: (c, oc) :: (D, oD) :: (ax, oa) :: news, p.1 ≠ D') → StrsAre zs (cutR r) → Q (.ref D') { s with heap := h', toks := tk' }) :
    wpAny (model PySem.Challenge.rw_xo0029_01.row.prog w) A (eval elL (compEnvC scL [(Str.ofString "line", c)] C (en256 L))) Q E s := by
  obtain ⟨hh, dp, fr, gd, un⟩ := A
  obtain ⟨g, gs, dr, tk, os⟩ := s
  obtain rfl : hh = none := rm.hh
  dsimp only at F N h
  have X2 := Base.K B
  have T2 := Base.T B
  revert X2; k_fill; intro X2
  refine LCg.ListComp_U (F₀ := F) (by with_unfolding_all rfl) (by decide) (by rfl) (by decide) (by rfl) ?_
  k_steps
  unfold Stop
  (with_reducible rename Fr _ _ _ _ => F3); (with_reducible rename News _ _ _ _ => N3); (with_reducible rename IsRange _ _ _ _ _ _ _ _ => R3)
  have hfd : ((r.length : Int)).fdiv 9 = ((r.length / 9 : Nat) : Int) := by rw [Int.fdiv_eq_ediv_of_nonneg _ (by decide)]; omega
  rw [hfd] at R3
  have hro := range_ok (r.length / 9) (by omega)
  have hsz9 : (1000000 : Nat) ≤ sizeLine := Nat.le_of_ble_eq_true (by decide +kernel)
  refine LCg.CompSrc.range rfl F3 N3 R3 hro.1 hro.2 (by omega) fun g' => ?_
  refine CRest.indF (fun i zs => StrsAre zs ((List.range i).map (cutAt r))) ?fin1 ?step1 .nil
  case step1 =>
    rintro i zs hi hS v I2 oI2 C2 oC2 D2 m₂ h2 tk2 E' ⟨t, rfl⟩ hoC hx F4 N4 off ne
    clear F3 N3 R3
    k_steps
    (with_reducible rename Fr _ _ _ _ => F5); (with_reducible rename News _ _ _ _ => N5)
    refine LCg.CompEnd.intro F5 N5 _ (fun p hp => hp) off trivial ⟨rfl, ?_⟩
    have e := strsAre_snoc hS (cutAt r i)
    simpa [List.range_succ, cutAt] using e _
  case fin1 =>
    rintro zs hS
    intro D2 h2 tk2 F4 N4 o1
    exact h D2 h2 tk2 zs F4 N4 (off1_mem o1) hS
end
section -- A37
set_option maxHeartbeats 1200000
theorem words_A37_1 : True := by
  k_with_none
  w_top off
  k_with "mn_enter" => ((
  (have Xᵥ := Base.K (by assumption)); (have Tᵥ := Base.T (by assumption)); revert Tᵥ; revert Xᵥ; k_fill; intro _ _
  k_dflt (refine' enter0 ?k1ᵥ ?k2ᵥ ?k3ᵥ ?k4ᵥ ?k5ᵥ ?k6ᵥ ?k7ᵥ ?k8ᵥ ?k9ᵥ ?k10ᵥ ?_; (case k1ᵥ => exact Base.keeps (by assumption) (by assumption)); (case k2ᵥ => exact Room.depth (by assumption)); (case k3ᵥ => k_is); (case k4ᵥ => k_is); (case k5ᵥ => first | exact BindsTo.of_eq rfl | exact binds_K ((Base.K (by assumption)).keeps (by assumption)) rfl (by k_is) rfl rfl rfl | fail "m_enter: no rule for these arguments"); (case k6ᵥ => exact locs rfl); (case k7ᵥ => decide); (case k8ᵥ => exact rfl); (case k9ᵥ => exact rfl); (case k10ᵥ => exact rfl); k_whole; intro _ _ _ _; (try dsimp only); (try k_fold))))
  k_with "wpAt" => ((ks_step "attributeBase Call"; k_here; k_dflt (refine' a_node ?k1ᵥ ?k2ᵥ ?k3ᵥ ?k4ᵥ ?k5ᵥ ?k6ᵥ ?k7ᵥ ?k8ᵥ ?k9ᵥ ?k10ᵥ ?k11ᵥ ?k12ᵥ ?k13ᵥ ?k14ᵥ ?k15ᵥ ?k16ᵥ ?k17ᵥ ?k18ᵥ ?k19ᵥ ?k20ᵥ ?k21ᵥ ?k22ᵥ ?k23ᵥ ?_; (case k1ᵥ => k_asm); (case k2ᵥ => k_in); (case k3ᵥ => k_asm); (case k4ᵥ => exact Base.T (by assumption)); (case k5ᵥ => k_is); (case k6ᵥ => rfl); (case k7ᵥ => rfl); (case k8ᵥ => k_mem); (case k9ᵥ => k_mem); (case k10ᵥ => k_is); (case k11ᵥ => rfl); (case k12ᵥ => first | rfl | decide +kernel); (case k13ᵥ => k_is); (case k14ᵥ => k_is); (case k15ᵥ => k_is); (case k16ᵥ => k_is); (case k17ᵥ => decide); (case k18ᵥ => rfl); (case k19ᵥ => rfl); (case k20ᵥ => rfl); (case k21ᵥ => rfl); (case k22ᵥ => decide +kernel); (case k23ᵥ => first | boot_by_name | rfl | kernel_rfl); intro _ _ _ _ l1ᵥ; (try k_lt l1ᵥ)))); (try (revert l1ᵥ; intro _))
  k_with "getMethod ref" => ((k_here; k_dflt (refine' sup_methodN ?k1ᵥ ?k2ᵥ ?k3ᵥ ?k4ᵥ ?k5ᵥ ?k6ᵥ ?k7ᵥ ?k8ᵥ ?k9ᵥ ?k10ᵥ ?k11ᵥ ?k12ᵥ ?k13ᵥ ?k14ᵥ ?k15ᵥ ?_; (case k1ᵥ => k_asm); (case k2ᵥ => k_in); (case k3ᵥ => k_asm); (case k4ᵥ => k_mem); (case k5ᵥ => k_mem); (case k6ᵥ => k_is); (case k7ᵥ => ks_is); (case k8ᵥ => decide); (case k9ᵥ => exact slot_wd_get); (case k10ᵥ => exact type_llen); (case k11ᵥ => exact entry_wd_get); (case k12ᵥ => exact args_wd_get); (case k13ᵥ => exact fun a b => wd_get a b (.inl ⟨rfl, rfl⟩)); (case k14ᵥ => exact rfl); (case k15ᵥ => kernel_rfl); intro _ _ _ _ l1ᵥ; (try k_lt l1ᵥ)))); (try (revert l1ᵥ; intro _))
  k_with "getMethod ref" => ((k_here; k_dflt (refine' sup_methodN ?k1ᵥ ?k2ᵥ ?k3ᵥ ?k4ᵥ ?k5ᵥ ?k6ᵥ ?k7ᵥ ?k8ᵥ ?k9ᵥ ?k10ᵥ ?k11ᵥ ?k12ᵥ ?k13ᵥ ?k14ᵥ ?k15ᵥ ?_; (case k1ᵥ => k_asm); (case k2ᵥ => k_in); (case k3ᵥ => k_asm); (case k4ᵥ => k_mem); (case k5ᵥ => k_mem); (case k6ᵥ => k_is); (case k7ᵥ => ks_is); (case k8ᵥ => decide); (case k9ᵥ => exact slot_wd_get); (case k10ᵥ => exact type_linit); (case k11ᵥ => exact entry_wd_get); (case k12ᵥ => exact args_wd_get); (case k13ᵥ => exact fun a b => wd_get a b (.inr ⟨rfl, rfl⟩)); (case k14ᵥ => exact rfl); (case k15ᵥ => kernel_rfl); intro _ _ _ _ l1ᵥ; (try k_lt l1ᵥ)))); (try (revert l1ᵥ; intro _))
  k_with "getMethod ref" => ((k_here; k_dflt (refine' sup_methodN ?k1ᵥ ?k2ᵥ ?k3ᵥ ?k4ᵥ ?k5ᵥ ?k6ᵥ ?k7ᵥ ?k8ᵥ ?k9ᵥ ?k10ᵥ ?k11ᵥ ?k12ᵥ ?k13ᵥ ?k14ᵥ ?k15ᵥ ?_; (case k1ᵥ => k_asm); (case k2ᵥ => k_in); (case k3ᵥ => k_asm); (case k4ᵥ => k_mem); (case k5ᵥ => k_mem); (case k6ᵥ => k_is); (case k7ᵥ => ks_is); (case k8ᵥ => decide); (case k9ᵥ => exact slot_md_get); (case k10ᵥ => exact type_pop); (case k11ᵥ => exact entry_md_get); (case k12ᵥ => exact args_md_get); (case k13ᵥ => exact fun a b => md_get a b); (case k14ᵥ => exact rfl); (case k15ᵥ => kernel_rfl); intro _ _ _ _ l1ᵥ; (try k_lt l1ᵥ)))); (try (revert l1ᵥ; intro _))
  k_with "callWith ref" => ((k_here; k_dflt (refine' callWith_bnd ?k1ᵥ ?k2ᵥ ?k3ᵥ ?_; (case k1ᵥ => k_asm); (case k2ᵥ => k_mem); (case k3ᵥ => first | exact .inl rfl | exact .inr rfl))))
  k_with "getMethod ref" => ((k_here; k_dflt (refine' a_methodN ?k1ᵥ ?k2ᵥ ?k3ᵥ ?k4ᵥ ?k5ᵥ ?k6ᵥ ?k7ᵥ ?k8ᵥ ?k9ᵥ ?_; (case k1ᵥ => k_asm); (case k2ᵥ => k_in); (case k3ᵥ => k_asm); (case k4ᵥ => k_mem); (case k5ᵥ => k_mem); (case k6ᵥ => k_is); (case k7ᵥ => k_is); (case k8ᵥ => first | exact .inl rfl | exact .inr rfl); (case k9ᵥ => exact rfl))))
  k_with "getAttr ref" => ((refine' a_getN ?k1ᵥ ?k2ᵥ ?k3ᵥ ?k4ᵥ ?k5ᵥ ?_; (case k1ᵥ => k_asm); (case k2ᵥ => k_in); (case k3ᵥ => k_asm); (case k4ᵥ => k_mem); (case k5ᵥ => k_mem)))
  k_with "call ref" => ((refine unstop ?_))
  k_with "call builtin:len" => ((refine unstop ?_))
  k_with "call type:str" => ((refine unstop ?_))
  trivial
theorem VIn.incl {m m' : List (Addr × Obj)} {vo vd lo x : Addr} {ml : Int} {lines : List Str} (I : VIn m vo vd lo x ml lines) (hs : ∀ q ∈ m, q ∈ m') : VIn m' vo vd lo x ml lines := by
  obtain ⟨ho, ⟨es, k, hd, ve⟩, ⟨lvs, ep, hl, sa⟩⟩ := I
  exact ⟨hs _ ho, ⟨es, k, hs _ hd, ve⟩, ⟨lvs, ep, hs _ hl, sa⟩⟩
theorem Tabs.incl {m m' : List (Addr × Obj)} (I : Tabs m) (hs : ∀ q ∈ m, q ∈ m') : Tabs m' := by
  obtain ⟨⟨p1, a1, b1⟩, ⟨p2, a2, b2⟩⟩ := I
  exact ⟨⟨p1, hs _ a1, b1⟩, ⟨p2, hs _ a2, b2⟩⟩
theorem FS.incl {m m' : List (Addr × Obj)} {vo vd lo x dx : Addr} {ml : Int} {lines : List Str} {parts : List (Str × Str)} {vs : List Value} (I : FS m vo vd lo x dx ml lines parts vs) (hs : ∀ q ∈ m, q ∈ m') : FS m' vo vd lo x dx ml lines parts vs := ⟨I.v.incl hs, I.a.incl hs, I.t.incl hs⟩
theorem FS.cls {m m' : List (Addr × Obj)} {vo vd lo x dx : Addr} {ml : Int} {lines : List Str} {parts : List (Str × Str)} {vs : List Value} (I : FS m vo vd lo x dx ml lines parts vs) (hs : ∀ q ∈ m, q.2.cls ≠ .type "list_iterator" → q ∈ m') : FS m' vo vd lo x dx ml lines parts vs := by
  obtain ⟨⟨ho, ⟨es, k, hd, ve⟩, ⟨lvs, ep, hl, sa⟩⟩, ⟨⟨epx, hx⟩, ⟨hs1, tk, t, kd, hdx⟩, ln, tp⟩, ⟨ps, h183, o1⟩, ⟨ps', h190, o2⟩⟩ := I
  exact ⟨⟨hs _ ho (by simp), ⟨es, k, hs _ hd (by simp), ve⟩, ⟨lvs, ep, hs _ hl (by simp), sa⟩⟩, ⟨⟨epx, hs _ hx (by simp)⟩, ⟨hs1, tk, t, kd, hs _ hdx (by simp)⟩, ln, fun j p hj => by obtain ⟨T, a, b, e1, e2⟩ := tp j p hj; exact ⟨T, a, b, e1, hs _ e2 (by simp)⟩⟩, ⟨ps, hs _ h183 (by simp), o1⟩, ⟨ps', hs _ h190 (by simp), o2⟩⟩
theorem stopQ {α : Type} {M : PySem.Model} {A : Around} {c : Sem α} {Q : α → Shared → Prop} {E : Value → Shared → Prop} {s : Shared} (h : wpAny M A c (fun v s' => Stop (Q v s')) E s) : wpAny M A c Q E s := h
theorem st_ok (many : Nat) (hm : 1 ≤ many) : ∀ (xs : List Str) (st : List Str × List Str), (∀ c ∈ xs, c.length = 8) → (∀ c ∈ st.2, c.length = 8) → st.2.length ≤ many →
    (∀ c ∈ (xs.foldl (stepF many) st).2, c.length = 8) ∧ (xs.foldl (stepF many) st).2.length ≤ many ∧ (xs.foldl (stepF many) st).1.length ≤ st.1.length + xs.length
  | [], st, _, h2, h3 => ⟨h2, h3, Nat.le_refl _⟩
  | c :: xs, st, h1, h2, h3 => by
    have hc := h1 c (.head _)
    have key : (∀ d ∈ (stepF many st c).2, d.length = 8) ∧ (stepF many st c).2.length ≤ many ∧ (stepF many st c).1.length ≤ st.1.length + 1 := by
      unfold stepF
      split
      · rename_i hq
        refine ⟨fun d hd => ?_, by simpa using hq, Nat.le_succ _⟩
        rcases List.mem_append.mp hd with h | h
        · exact h2 d h
        · rw [List.mem_singleton.mp h]; exact hc
      · exact ⟨fun d hd => by rw [List.mem_singleton.mp hd]; exact hc, hm, by simp⟩
    have := st_ok many hm xs (stepF many st c) (fun d hd => h1 d (.tail _ hd)) key.1 key.2.1
    refine ⟨this.1, this.2.1, ?_⟩
    have h4 := this.2.2
    have h5 := key.2.2
    simp only [List.foldl_cons, List.length_cons]
    omega
theorem take_snoc {xs : List Str} {i : Nat} (h : i < xs.length) : xs.take (i + 1) = xs.take i ++ [xs[i]] := (List.take_append_getElem h).symm
/-- the lines of a folded row -/
noncomputable def foldRows (many : Nat) (xs : List Str) : List Str := (xs.foldl (stepF many) ([], [])).1 ++ [rowT (xs.foldl (stepF many) ([], [])).2]
/-- what _law_fold gives: a list of lists of texts, the rows cut -/
inductive FoldOut (rows : List Str) (v : Value) (more more' : List (Addr × Obj)) : Prop
  | mk (D : Addr) (gs : List (Addr × List Value)) (ev : v = .ref D) (n : gs.length = rows.length) (top : (D, LCg.lst (gs.map fun g => Value.ref g.1)) ∈ more') (row : ∀ g ∈ gs, (g.1, LCg.lst g.2) ∈ more') (str : ∀ (j : Nat) (g : Addr × List Value), gs[j]? = some g → ∃ r, rows[j]? = some r ∧ StrsAre g.2 (cutR r)) (nd : (gs.map (·.1)).Nodup) (ne : ∀ g ∈ gs, g.1 ≠ D) (old : ∀ q ∈ more, q.1 ≠ D ∧ ∀ g ∈ gs, q.1 ≠ g.1) (tabs : Tabs more')
inductive LoopF (os₀ : OsState) (gb : Heap) (Lx : Addr) (more : List (Addr × Obj)) (It l vo vd lo x dx : Addr) (many left : Nat) (xs : List Str) (m : Str → Option Value) (kk : Nat) (s' : Shared) : Prop
  | mk (i : Nat) (oI : Obj) (cv : Option Value) (m' : List (Addr × Obj)) (vs : List Value) (hk : kk = xs.length + 1 - i) (hi : i ≤ xs.length) (hIc : oI.cls = .type "list_iterator") (hId : oI.data = .fields #[.ref l, .int i 0]) (F : Fr gb Lx s'.heap (fun y => if y = Str.ofString "cell" then cv else m y)) (N : News gb Lx s'.heap ((It, oI) :: m')) (st : Still os₀ s') (kp : ∀ q ∈ more, q.1 ∉ [(183 : Addr), 190] → q ∈ m') (off : ∀ q ∈ m', q.1 ≠ It) (fs : FS m' vo vd lo x dx ((9 * many + left : Nat) : Int) ((xs.take i).foldl (stepF many) ([], [])).1 (prs ((xs.take i).foldl (stepF many) ([], [])).2) vs)
theorem words_A37_2 : True := by
  k_with "call builtin:str.split" => ((refine m_split (by k_asm) (by k_asm) (by assumption) (by decide) (by assumption) ?_; intro _ _ _ _ _ _ _ l1ᵥ; (try k_lt l1ᵥ))); (try (revert l1ᵥ; intro _))
  k_with "eval ListComp" => ((refine unstop ?_))
  k_with "exec For" => ((refine unstop ?_))
  trivial
theorem fn_fold (w : World) (mean : ExcName → Option Value) (mg mb : Str → Option Value) (T : List Addr) (hsub : ∀ a ∈ [(183 : Addr), 190], a ∈ T) (l : Addr) (cs : List Value) (xs : List Str) (many left : Nat) (tm tl : Tok) (hcs : StrsAre cs xs) (h8 : ∀ c ∈ xs, c.length = 8) (hxl : xs.length ≤ 10) (hm : 1 ≤ many) (hm2 : many ≤ 9) (hleft : left ≤ 8) (cur : List Str) (c₀ : Str) (hcur : (xs.foldl (stepF many) ([], [])).2 = cur ++ [c₀]) (hok : PyData.strOk c₀ = true) (hsp : Txt.isspace (rowT (cur ++ [c₀])) = false) (hjw : ((foldRows many xs).map (·.length)).sum + (foldRows many xs).length ≤ 500) (hsplit : Txt.split (Txt.join (Str.ofString "\n") (foldRows many xs)) (Str.ofString "\n") = foldRows many xs) (hrl : ∀ r ∈ foldRows many xs, r.length ≤ 100) (hpl : (Txt.join (Str.ofString "\n") (foldRows many xs)).length ≤ 1000) :
   FnA os₀ w mean mg mb 30 256 [.ref l, .int (many : Int) tm, .int (left : Int) tl] T (fun more => Tabs more ∧ ∃ k, (l, srcO cs.toArray k) ∈ more) (FoldOut (foldRows many xs)) := by
  refine FnA.intro fun dp fr gd un g gs dr tk os Q E gb more rm B hk hzz ha hbr tch Pᵢ ret => ?_
  have tb := Pᵢ.1
  obtain ⟨kl, hl⟩ := Pᵢ.2
  clear Pᵢ
  have B2 := B.keeps (gAt_base hk ha)
  have k2 : Grows (gAt g more) g := gAt_grows
  have a2 := gAt_above ha
  have z2 : (gAt g more).objs.size ≤ g.objs.size := Nat.le_of_eq (hideAll_size _ _)
  have gk := gAt_base hk ha
  have X2 := Base.K B2
  clear B hk
  walk_at "mn_enter"
  rename_i Lx hx0 F0 N0
  have N1 := News.lower F0 N0 k2 a2
  have F1 := Fr.lower F0 k2 z2
  rw [List.nil_append] at N1
  have F2 := (show Fr (gAt g more) _ _ (fun y => List.lookup y [(Str.ofString "left", Value.int (left : Int) tl), (Str.ofString "many", Value.int (many : Int) tm), (Str.ofString "cells", Value.ref l)]) from F1)
  clear F1 F0 N0
  generalize tk + List.length _ = tk0
  k_steps
  unfold Stop
  (with_reducible rename Fr _ _ _ _ => F); (with_reducible rename News _ _ _ _ => N)
  refine wpAny_call (make_K F N (X2.keeps F.keep) (by kernel_rfl) (fI := 78) (by kernel_rfl) (by kernel_rfl) fun vo vd h3 F3 N3 lt3 lt3' => ?_)
  clear F N
  refine fn_vinit w mean mg mb vo vd [vd] (by simp) (9 * (many : Int) + (left : Int)) _ _ _ _ _ _ _ (gAt g more) [(vo, instObj 137 vd), (vd, dictOf [] 0)] (Room.made (Room.less (Room.deeper (d := 29) rm) (by decide : 13 ≤ 29))) B2 F3.keep (Nat.le_of_lt (Nat.lt_of_le_of_lt F3.above F3.ns.lt)) (fun p hp => ?_) hbr (fun a ha => ?_) ⟨rfl, lt3'⟩ fun v s' mv W hb4 P => ?_
  · have hp' := N3 p (by
      rcases List.mem_cons.mp hp with rfl | hp
      · exact .head _
      · rw [List.mem_singleton.mp hp]; exact .tail _ (.head _))
    exact ⟨hp'.1, hp'.2.2⟩
  · rw [List.mem_singleton.mp ha]; exact ⟨_, .tail _ (.head _)⟩
  obtain ⟨rfl, lo, x, dx, V4, A4⟩ := P
  refine ⟨rfl, ?_⟩
  have N3a : News (gAt g more) Lx h3 (more ++ [(vo, instObj 137 vd), (vd, dictOf [] 0)]) := News.fewer N3 fun p hp => by
    rcases List.mem_append.mp hp with hp | hp
    · exact .tail _ (.tail _ hp)
    rcases List.mem_cons.mp hp with rfl | hp
    · exact .head _
    · rw [List.mem_singleton.mp hp]; exact .tail _ (.head _)
  have hfr : ∀ q ∈ more, q.1 ≠ x ∧ q.1 ≠ dx ∧ q.1 ≠ lo := by
    have key : ∀ a o, (a, o) ∈ mv → ∀ q ∈ more, q.1 ≠ a := fun a o hm q hq e => by
      have hlq : @LT.lt Nat _ q.1 vd := lt3 q hq
      have hlv : @LT.lt Nat _ vd vo := lt3'
      rcases W.src _ hm with z | ⟨o', z⟩
      · have h1 := (N3 q (.tail _ (.tail _ hq))).1
        rw [e] at h1
        rw [show h3.get? a = none from z] at h1
        cases h1
      · rcases List.mem_cons.mp z with z | z
        · injection z with z _
          rw [e, show a = vo from z] at hlq; omega
        · have z := List.mem_singleton.mp z
          injection z with z _
          rw [e, show a = vd from z] at hlq; omega
    obtain ⟨epx, hx⟩ := A4.ob
    obtain ⟨_, _, _, _, hdx⟩ := A4.dc
    obtain ⟨_, _, hlo, _⟩ := V4.ls
    exact fun q hq => ⟨key x _ hx q hq, key dx _ hdx q hq, key lo _ hlo q hq⟩
  have F4 := W.fr F3 (News.fewer N3a fun p hp => List.mem_append_right _ hp)
  have N4 := W.news2 F3 N3a fun p hp hm => by
    have := lt3 p hp
    rw [List.mem_singleton.mp hm] at this
    exact Nat.lt_irrefl _ this
  have fs4 : FS (more ++ mv) vo vd lo x dx (9 * (many : Int) + (left : Int)) [] [] [] := ⟨V4.incl fun q h => List.mem_append_right _ h, A4.incl fun q h => List.mem_append_right _ h, tb.incl fun q h => List.mem_append_left _ h⟩
  have hmo : ∀ q ∈ more, q ∈ more ++ mv := fun q h => List.mem_append_left _ h
  generalize more ++ mv = m4 at fs4 N4 hmo
  obtain ⟨h4, gs4, dr4, tk4, os4⟩ := s'
  dsimp only at F4 N4 hb4
  clear F3 N3 N3a W V4 A4 lt3 lt3'
  dsimp only
  k_steps
  unfold Stop
  (with_reducible rename Fr _ _ _ _ => F); (with_reducible rename News _ _ _ _ => N)
  refine wpAny_For ?_ (by intro _; rfl)
  k_steps
  (with_reducible rename Fr _ _ _ _ => F); (with_reducible rename News _ _ _ _ => N)
  rename_i h5
  have hlen := StrsAre.len hcs
  have hl9 : l ∉ [(183 : Addr), 190] := fun hm => by
    obtain ⟨⟨p1, a1, _⟩, ⟨p2, a2, _⟩⟩ := tb
    rcases List.mem_cons.mp hm with e | hm
    · rw [e] at hl; have := uniq ha hl a1; cases this
    · rw [List.mem_singleton.mp hm] at hl; have := uniq ha hl a2; cases this
  have eml : 9 * (many : Int) + (left : Int) = ((9 * many + left : Nat) : Int) := by push_cast; rfl
  rw [eml] at fs4
  have hIl : h5.IsList l cs.toArray := ⟨_, (N _ (hmo _ hl)).1, rfl, _, rfl⟩
  refine wpAny_pyIter_list hIl ?_
  have F5 := Fr.push F { cls := .type "list_iterator", data := .fields #[.ref l, .int 0 0] }
  have N5 := News.push F N { cls := .type "list_iterator", data := .fields #[.ref l, .int 0 0] }
  have off5 : ∀ q ∈ m4, q.1 ≠ h5.objs.size := fun q hq => Nat.ne_of_lt (Heap.lt_size (N q hq).1)
  generalize hIt : h5.objs.size = It at off5 N5
  have e0 : (fun y => if y = Str.ofString "cell" then none else (if y = Str.ofString "folder" then some (Value.ref vo) else List.lookup y [(Str.ofString "left", Value.int (left : Int) tl), (Str.ofString "many", Value.int (many : Int) tm), (Str.ofString "cells", Value.ref l)])) = fun y => (if y = Str.ofString "folder" then some (Value.ref vo) else List.lookup y [(Str.ofString "left", Value.int (left : Int) tl), (Str.ofString "many", Value.int (many : Int) tm), (Str.ofString "cells", Value.ref l)]) := by
    funext y
    by_cases hy : y = Str.ofString "cell"
    · subst hy; rfl
    · simp [hy]
  rw [← e0] at F5
  clear F N hIl
  refine codeAny_forLoop_any (LoopF os₀ (gAt g more) Lx more It l vo vd lo x dx many left xs (fun y => if y = Str.ofString "folder" then some (Value.ref vo) else List.lookup y [(Str.ofString "left", Value.int (left : Int) tl), (Str.ofString "many", Value.int (many : Int) tm), (Str.ofString "cells", Value.ref l)])) ?_ (xs.length + 1)
    ⟨0, _, none, m4, [], rfl, Nat.zero_le _, rfl, rfl, F5, N5, hb4, fun q h _ => hmo q h, off5, fs4⟩
  clear F5 N5 hb4 fs4 hmo off5 e0
  refine fun kk s' I => absQ fun Qa hQa => ?_
  obtain ⟨i, oI, cv, m', vs, rfl, hi, hIc, hId, F6, N6, hb6, kp6, off6, fs6⟩ := I
  obtain ⟨h6, gs6, dr6, tk6, os6⟩ := s'
  dsimp only at F6 N6 hb6
  have hit : h6.IsListIter It l i := ⟨oI, (N6 _ (.head _)).1, hIc, hId⟩
  have hitems : Items h6 l cs.toArray := ⟨_, kl, (N6 _ (.tail _ (kp6 _ hl hl9))).1, rfl⟩
  have hIT : It ∉ [x, dx, lo, 183, 190] := fun hm => by
    obtain ⟨o, ho⟩ := fs6.tch5 _ hm
    exact off6 _ ho rfl
  have hst := st_ok many hm (xs.take i) ([], []) (fun c hc => h8 c (List.mem_of_mem_take hc)) (by simp) (by simp)
  by_cases hlt : i < xs.length
  · have hlt2 : i < cs.length := by omega
    obtain ⟨xi, ti, e1, e2⟩ := StrsAre.get hcs (i := i) (List.getElem?_eq_getElem hlt2)
    have e3 : xi = xs[i] := by rw [List.getElem?_eq_getElem hlt] at e1; exact (Option.some.inj e1).symm
    subst e3
    refine next_item hit hitems (v := cs[i]) (by simp [hlt2]) fun h7 hit7 sb7 => ?_
    obtain ⟨oI7, eI7, hIc7, hId7⟩ := hit7
    obtain ⟨F7, N7'⟩ := stepW F6 N6 (.head _) (fun b o hb e => sb7.extBut b o hb e) eI7
    have N7 : News (gAt g more) Lx h7 ((It, oI7) :: m') := News.fewer N7' fun p hp => by
      rcases List.mem_cons.mp hp with rfl | hp
      · exact swapAt_mem (.head _)
      · exact swapAt_ne (.tail _ hp) (off6 p hp)
    clear F6 N6 N7' hit hitems
    obtain ⟨_, _, _, N8⟩ := FS.dup (fs6.incl (m' := (It, oI7) :: m') fun q h => .tail _ h) N7
    clear N7
    rw [e2]
    refine hQa _ _ ?_
    dsimp only
    refine wpAny_of_eq (a := ()) rfl ?_
    refine absQ fun Qb hQb => ?_
    clear hQa
    k_steps
    refine hQb _ _ ?_
    clear hQb
    (try dsimp only)
    refine absQ fun Qc hQc => ?_
    k_steps
    unfold Stop
    (with_reducible rename Fr _ _ _ _ => F); (with_reducible rename News _ _ _ _ => N)
    have hvs := fs6.a.ln
    rw [prs_len] at hvs
    refine callA2 (fn_chunk w mean mg mb vo vd lo x dx [x, dx, lo, 183, 190] (fun a h => h) many left _ _ vs xs[i] _ ti hm hm2 hleft hvs hst.2.1 (by have := hst.2.2; rw [List.length_take] at this; simp at this; omega) hst.1 (h8 _ (List.getElem_mem hlt))) (Room.less (Room.deeper (d := 29) rm) (by decide : 20 ≤ 29)) B2 F N [(It, oI7)] m' (fun p hp => by rw [List.mem_singleton.mp hp]; exact .tail _ (.tail _ (.tail _ (.tail _ (.tail _ (.head _)))))) (fun p hp => .tail _ (.tail _ (.tail _ (.tail _ (.tail _ (.tail _ hp)))))) (fun p hp => by rw [List.mem_singleton.mp hp]; exact hIT) hb6 fs6.tch5 fs6 fun v s' more' m8 P kk8 hm8 F8 N8 hb8 => ?_
    obtain ⟨rfl, vs9, fs9⟩ := P
    obtain ⟨h8', gs8, dr8, tk8, os8⟩ := s'
    dsimp only at F8 N8 hb8
    clear F N
    have A8 := News.above N8
    have fs10 := fs9.cls (m' := restOf [It] m8) fun q hq hc => mem_rest (hm8 q hq) fun hm => hc (by
      have e := List.mem_singleton.mp hm
      obtain ⟨b, o⟩ := q
      dsimp only at e
      subst e
      have := uniq A8 (List.mem_append_right _ (hm8 _ hq)) (List.mem_append_left _ (.head _))
      rw [this]; exact hIc7)
    have N9 : News (gAt g more) Lx h8' ((It, oI7) :: restOf [It] m8) := News.fewer N8 fun p hp => by
      rcases List.mem_cons.mp hp with rfl | hp
      · exact .head _
      · exact .tail _ (of_rest hp).1
    have kp9 : ∀ q ∈ more, q.1 ∉ [(183 : Addr), 190] → q ∈ restOf [It] m8 := fun q hq hn => by
      have h6' := kp6 q hq hn
      refine mem_rest (kk8 q h6' fun hm => ?_) fun hm => off6 q h6' (List.mem_singleton.mp hm)
      obtain ⟨n1, n2, n3⟩ := hfr q hq
      simp only [List.mem_cons, List.not_mem_nil, or_false] at hm hn
      rcases hm with h | h | h | h | h
      · exact n1 h
      · exact n2 h
      · exact n3 h
      · exact hn (.inl h)
      · exact hn (.inr h)
    have hst1 : (xs.take (i + 1)).foldl (stepF many) ([], []) = stepF many ((xs.take i).foldl (stepF many) ([], [])) xs[i] := by
      rw [take_snoc hlt, List.foldl_append]; rfl
    have e5 : (fun y => if y = Str.ofString "cell" then some (Value.str xs[i] ti) else if y = Str.ofString "cell" then cv else (if y = Str.ofString "folder" then some (Value.ref vo) else List.lookup y [(Str.ofString "left", Value.int (left : Int) tl), (Str.ofString "many", Value.int (many : Int) tm), (Str.ofString "cells", Value.ref l)])) = fun y => if y = Str.ofString "cell" then some (Value.str xs[i] ti) else (if y = Str.ofString "folder" then some (Value.ref vo) else List.lookup y [(Str.ofString "left", Value.int (left : Int) tl), (Str.ofString "many", Value.int (many : Int) tm), (Str.ofString "cells", Value.ref l)]) := by
      funext y
      by_cases hy : y = Str.ofString "cell"
      · simp [hy]
      · simp [hy]
    rw [e5] at F8
    refine wpAny_execs_nil (hQc _ _ ?_)
    dsimp only
    refine ⟨xs.length + 1 - (i + 1), subA hlt, i + 1, oI7, some (.str xs[i] ti), restOf [It] m8, vs9, rfl, hlt, hIc7, hId7, F8, N9, hb8, kp9, fun q hq e => (of_rest hq).2 (by rw [e]; simp), ?_⟩
    rw [hst1]
    exact fs10
  · obtain rfl : i = xs.length := Nat.le_antisymm hi (Nat.not_lt.mp hlt)
    refine next_end rfl hit hitems (by simp [hlen]) fun h7 sb7 => ?_
    have F7 : Fr (gAt g more) Lx h7 _ := ⟨F6.ns.at' fun o e => sb7 _ _ (fun q => (N6 _ (.head _)).2.1 q.symm) e, fun b o e => sb7 b o (fun q => by have := (N6 _ (.head _)).2.2; rw [show (It, oI).1 = b from q.symm, e] at this; cases this) (F6.keep b o e), F6.above⟩
    have N7 : News (gAt g more) Lx h7 m' := fun p hp => ⟨sb7 _ _ (off6 p hp) (N6 p (.tail _ hp)).1, (N6 p (.tail _ hp)).2⟩
    rw [List.take_length] at fs6 hst
    rw [hcur] at hst fs6
    generalize hls : (xs.foldl (stepF many) ([], [])).1 = ls at *
    have hrows : foldRows many xs = ls ++ [rowT (cur ++ [c₀])] := by unfold foldRows; rw [hls, hcur]
    rw [hrows] at hjw hsplit hpl hrl ret
    clear F6 N6 hit hitems
    obtain ⟨_, _, _, Nd⟩ := FS.dup fs6 N7
    refine hQa _ _ ?_
    clear hQa
    dsimp only
    refine wpAny_execs_nil ?_
    dsimp only
    k_steps
    unfold Stop
    (with_reducible rename Fr _ _ _ _ => F)
    clear Nd
    have hvs := fs6.a.ln
    rw [prs_len] at hvs
    have hcl := hst.2.1
    have hpre := prs_pre hst.1 (cur ++ [c₀]).length (Nat.le_refl _)
    have hszz := prs_sz hst.1
    have hc8 := hst.1 c₀ (by simp)
    have hpt := prs_text (cur ++ [c₀])
    rw [prs_snoc] at fs6 hpre hszz hpt
    have hl2 := hst.2.2
    simp only [List.length_append, List.length_singleton, List.length_nil] at hcl hpre hl2 hvs
    refine callA2 (fn_vstr w mean mg mb vo vd lo x dx [x, dx, lo, 183, 190] (fun a h => h) _ ls (prs cur) vs c₀ (Str.ofString "\n") _ (by omega) (by omega) hszz hok hc8 (by rw [List.length_append, prs_len, List.length_singleton, hpre]; omega) (by rw [hpt]; exact hsp) (by decide) (by rw [hpt]; omega)) (Room.less (Room.deeper (d := 29) rm) (by decide : 24 ≤ 29)) B2 F N7 [] m' (by simp) (fun p hp => hp) (by simp) hb6 fs6.tch5 fs6 fun v s' more' m8 P kk8 hm8 F8 N8 hb8 => ?_
    rw [hpt] at P
    obtain ⟨⟨tp, rfl⟩, tb8⟩ := P
    obtain ⟨h8', gs8, dr8, tk8, os8⟩ := s'
    dsimp only at F8 N8 hb8
    rw [List.nil_append] at N8
    generalize hpage : Txt.join (Str.ofString "\n") (ls ++ [rowT (cur ++ [c₀])]) = page at *
    clear F N7
    k_steps
    unfold Stop
    (with_reducible rename Fr _ _ _ _ => F9); (with_reducible rename News _ _ _ _ => N9)
    have hT5 : ∀ q ∈ more, q.1 ∉ [(183 : Addr), 190] → q.1 ∉ [x, dx, lo, 183, 190] := fun q hq hn hm => by
      obtain ⟨n1, n2, n3⟩ := hfr q hq
      simp only [List.mem_cons, List.not_mem_nil, or_false] at hm hn
      rcases hm with h | h | h | h | h
      · exact n1 h
      · exact n2 h
      · exact n3 h
      · exact hn (.inl h)
      · exact hn (.inr h)
    have hin : ∀ q ∈ more, q.1 ∉ [(183 : Addr), 190] → q ∈ m8 := fun q hq hn => kk8 q (kp6 q hq hn) (hT5 q hq hn)
    have hmm : ∀ q ∈ more, ∃ o, (q.1, o) ∈ m8 := fun q hq => by
      by_cases hn : q.1 ∈ [(183 : Addr), 190]
      · obtain ⟨⟨p1, a1, _⟩, ⟨p2, a2, _⟩⟩ := tb8
        rcases List.mem_cons.mp hn with e | hn
        · rw [e]; exact ⟨_, hm8 _ a1⟩
        · rw [List.mem_singleton.mp hn]; exact ⟨_, hm8 _ a2⟩
      · exact ⟨q.2, hin q hq hn⟩
    have tb9 := tb8.incl hm8
    refine ListComp_C (x := Str.ofString "line") (scope := scL) rfl F9 (by with_unfolding_all rfl) rfl (by decide) (fun n => rfl) (fun h => rfl) (by rfl)
      (fun i ys nw => ∃ gs : List (Addr × List Value), ys = gs.map (fun g => Value.ref g.1) ∧ gs.length = i ∧ nw = (gs.reverse.map fun g => (g.1, LCg.lst g.2)) ++ m8 ∧ (∀ (j : Nat) (g : Addr × List Value), gs[j]? = some g → ∃ r, (ls ++ [rowT (cur ++ [c₀])])[j]? = some r ∧ StrsAre g.2 (cutR r)) ∧ (∀ g ∈ gs, ∀ p ∈ m8, p.1 ≠ g.1) ∧ (gs.map (·.1)).Nodup) ?_ (by intro _; rfl)
    refine stopQ ?_
    k_steps
    unfold Stop
    (with_reducible rename Fr _ _ _ _ => Fz); (with_reducible rename News _ _ _ _ => Nz); (with_reducible rename StrsAre _ _ => Sz); (with_reducible rename ∀ p ∈ m8, _ => lz)
    clear F9 N9
    rename_i D0 vs0 h9 k9
    have hro2 : (ls ++ [rowT (cur ++ [c₀])]).length ≤ 11 := by rw [List.length_append, List.length_singleton]; omega
    refine ⟨D0, vs0.toArray, 0, m8, rfl, Fz, Nz, by rw [List.size_toArray, StrsAre.len Sz]; omega, fun p hp => Nat.ne_of_lt (lz p hp), ⟨[], rfl, rfl, rfl, (fun j g h => by cases h), (fun g h => by cases h), .nil⟩, ?_, ?_⟩
    · rintro i v ys nw I oI C oC c oc D h tk2 E' hv ⟨gs, rfl, rfl, rfl, q1, q2, q3⟩ hoc F10 N10 off
      obtain ⟨r, tr, hr, rfl⟩ := StrsAre.get Sz (i := gs.length) (by simpa using hv)
      refine fold_elt w mean mg mb _ _ _ _ (gAt g more) Lx I C c D D0 oI oC oc _ _ _ _ r tr (Room.less (Room.deeper (d := 29) rm) (by decide : 10 ≤ 29)) B2 F10 N10 hoc (hrl r (List.mem_of_getElem? hr)) fun D' h' tk' zs F11 N11 off11 hz => ?_
      refine ⟨h', tk', (D', LCg.lst zs) :: ((gs.reverse.map fun g => (g.1, LCg.lst g.2)) ++ m8), rfl, F11, News.fewer N11 fun p hp => ?_, ?_, gs ++ [(D', zs)], ?_, ?_, ?_, ?_, ?_, ?_⟩
      · simp only [List.cons_append, List.nil_append, List.mem_cons] at hp ⊢
        rcases hp with h | h | h | h | h | h | h
        · exact .inr (.inl h)
        · exact .inr (.inr (.inl h))
        · exact .inr (.inr (.inr (.inl h)))
        · exact .inr (.inr (.inr (.inr (.inl h))))
        · exact .inr (.inr (.inr (.inr (.inr (.inl h)))))
        · exact .inl h
        · exact .inr (.inr (.inr (.inr (.inr (.inr h)))))
      · intro p hp
        rcases List.mem_cons.mp hp with rfl | hp
        · exact ⟨fun e => off11 _ (.head _) e.symm, fun e => off11 _ (.tail _ (.head _)) e.symm, fun e => off11 _ (.tail _ (.tail _ (.head _))) e.symm, fun e => off11 _ (.tail _ (.tail _ (.tail _ (.head _)))) e.symm, fun e => off11 _ (.tail _ (.tail _ (.tail _ (.tail _ (.head _))))) e.symm⟩
        · exact off p hp
      · rw [List.map_append]; rfl
      · rw [List.length_append]; rfl
      · rw [List.reverse_append, List.map_append]; rfl
      · intro j g' hj
        by_cases hjl : j < gs.length
        · rw [List.getElem?_append_left hjl] at hj
          exact q1 j g' hj
        · rw [List.getElem?_append_right (Nat.not_lt.mp hjl)] at hj
          by_cases hj0 : j - gs.length = 0
          · rw [hj0] at hj
            cases hj
            have : j = gs.length := by omega
            subst this
            exact ⟨r, hr, hz⟩
          · obtain ⟨k, hk⟩ := Nat.exists_eq_succ_of_ne_zero hj0
            rw [hk] at hj
            cases hj
      · intro g' hg' p hp
        rcases List.mem_append.mp hg' with hg' | hg'
        · exact q2 g' hg' p hp
        · rw [List.mem_singleton.mp hg']
          exact off11 p (.tail _ (.tail _ (.tail _ (.tail _ (.tail _ (List.mem_append_right (gs.reverse.map fun g : Addr × List Value => ((g.1, LCg.lst g.2) : Addr × Obj)) hp))))))
      · rw [List.map_append, List.nodup_append]
        refine ⟨q3, by simp, fun a ha b hb e => ?_⟩
        obtain ⟨g', hg', rfl⟩ := List.mem_map.mp ha
        rw [List.map_singleton, List.mem_singleton] at hb
        subst hb
        exact off11 (g'.1, LCg.lst g'.2) (.tail _ (.tail _ (.tail _ (.tail _ (.tail _ (List.mem_append_left (as := gs.reverse.map fun g : Addr × List Value => ((g.1, LCg.lst g.2) : Addr × Obj)) m8 (List.mem_map.mpr ⟨g', List.mem_reverse.mpr hg', rfl⟩))))))) e
    · rintro D h tk2 ys nw F10 N10 off ⟨gs, rfl, hgl, rfl, q1, q2, q3⟩
      k_steps
      rw [List.size_toArray, StrsAre.len Sz] at hgl
      refine ret _ _ ((D, LCg.lst (gs.map fun g => Value.ref g.1)) :: ((gs.reverse.map fun g => (g.1, LCg.lst g.2)) ++ m8)) (Went.fin ha gk F10 N10 (fun q h => h) (fun q hq hn => .tail _ (List.mem_append_right _ (hin q hq fun hm => hn (hsub _ hm)))) tch) hb8 ⟨D, gs, rfl, hgl, .head _, fun g' hg' => .tail _ (List.mem_append_left _ (List.mem_map.mpr ⟨g', List.mem_reverse.mpr hg', rfl⟩)), q1, q3, fun g' hg' => off _ (List.mem_append_left _ (List.mem_map.mpr ⟨g', List.mem_reverse.mpr hg', rfl⟩)), fun q hq => ?_, tb9.incl fun q hq => .tail _ (List.mem_append_right _ hq)⟩
      obtain ⟨o, ho⟩ := hmm q hq
      exact ⟨off (q.1, o) (List.mem_append_right _ ho), fun g' hg' => q2 g' hg' (q.1, o) ho⟩
end
section -- D1
set_option maxHeartbeats 1000000
section
variable {w : World} {h₀ : Heap}
noncomputable abbrev pat56 : Obj := { cls := .type "re.Pattern", data := .fields #[.str (Str.ofString "(?m)^(?!$)") 347, .int 40 364, .int 0 0, .none, .none, .ref 55, .int 0 0] }
theorem words_D1_1 : True := by
  k_with_none
  w_top off
  k_with "m_enter" => ((
  (have Xᵥ := Base.K (by assumption)); (have Tᵥ := Base.T (by assumption)); revert Tᵥ; revert Xᵥ; k_fill; intro _ _
  k_dflt (refine' enter0 ?k1ᵥ ?k2ᵥ ?k3ᵥ ?k4ᵥ ?k5ᵥ ?k6ᵥ ?k7ᵥ ?k8ᵥ ?k9ᵥ ?k10ᵥ ?_; (case k1ᵥ => assumption); (case k2ᵥ => exact Room.depth (by assumption)); (case k3ᵥ => k_is); (case k4ᵥ => k_is); (case k5ᵥ => first | exact BindsTo.of_eq rfl | exact binds_K (by k_in) rfl (by k_is) rfl rfl rfl | fail "m_enter: no rule for these arguments"); (case k6ᵥ => exact locs rfl); (case k7ᵥ => decide); (case k8ᵥ => exact rfl); (case k9ᵥ => exact rfl); (case k10ᵥ => exact rfl); k_whole; intro _ _ _ _; (try dsimp only); (try k_fold))))
  trivial
theorem look56 : (hd.heap_1 w.params).lookup 56 = some pat56 := by kernel_rfl
theorem tgt56 (X : (hd.heap_1 w.params).In h₀) (x r : Str) (tb : Tok) (t0 : Tok) (hs : x.cps.size ≤ 1000) : Tgt (model PySem.Challenge.rw_xo0029_01.row.prog w) h₀ (.ref 56) (.str x tb) (.str r t0) code55 x.cps 0 where
  tgt := Looks.of_peek X (by kernel_rfl)
  lit := Looks.of_peek X (by kernel_rfl)
  nn := by rfl
  small := hs
end
noncomputable def pieceS (text : Array Nat) (r : Str) : Piece → Str
  | .cut b e => ⟨text.extract b e⟩
  | .repl => r
theorem pieces_str {text : Array Nat} {r : Str} {t0 : Tok} : ∀ {ps : List Piece} {vs : List Value}, PiecesAre 0 text (.str r t0) ps vs → StrsAre vs (ps.map (pieceS text r)) := by
  intro ps vs h
  induction h with
  | nil => exact .nil
  | cut _ ih => exact .cons _ _ ih
  | repl _ ih => exact .cons _ _ ih
noncomputable def indOf (x r : Str) : Option (List Str) := (loopP code55 x.cps x.cps.size 400 0 0 false).map fun ps => ps.map (pieceS x.cps r)
theorem m_ind {w : World} {A : Around} {E : Value → Shared → Prop} {s : Shared} {h₀ : Heap} {L : Addr} {m : Str → Option Value} {news : List (Addr × Obj)} {Q : Value → Shared → Prop} {x r : Str} {ys : List Str} {tb t0 : Tok} (F : Fr h₀ L s.heap m) (X : (hd.heap_1 w.params).In h₀) (N : News h₀ L s.heap news) (hz : x.cps.size ≤ 1000)
    (hr : (!r.cps.contains 92) = true) (hw : (ys.map (·.length)).sum + ys.length ≤ 1048576) (hl : indOf x r = some ys)
    (h : ∀ t h' tk, Fr h₀ L h' m → News h₀ L h' news → Q (.str (Txt.join (Str.ofString "") ys) t) { s with heap := h', toks := tk }) :
    wpAny (model PySem.Challenge.rw_xo0029_01.row.prog w) A (call (.builtin "re.Pattern.sub") [.ref 56, .str r t0, .str x tb]) Q E s := by
  obtain ⟨ps, hps, rfl⟩ := Option.map_eq_some_iff.mp hl
  refine call_sub (tgt56 X x r tb t0 hz) (X _ _ look56) rfl (no_call_str _ _) (.inl ⟨r, Looks.of_peek (K := []) (by intro a o e; cases e) (by kernel_rfl), hr⟩) hps F.keep fun D vs h' ep' tk jt hp hD hk hD' => ?_
  have hst := pieces_str hp
  have e0 : cutVal 0 x.cps 0 0 jt = .str (Str.ofString "") jt := by
    show Value.str ⟨x.cps.extract 0 0⟩ jt = _
    have : x.cps.extract 0 0 = #[] := by simp
    rw [this]; rfl
  rw [e0]
  split
  · rename_i hv
    cases vs with
    | cons v vs => cases hv
    | nil =>
      cases ps with
      | cons p ps => cases hp
      | nil => exact h jt h' tk (F.grownK hk) (N.grown hk)
  · exact join_listW (D := D) (items := vs.toArray) ⟨_, hD', rfl, _, rfl⟩ (by simpa using hst) (by decide) hw fun t' k => h t' h' k (F.grownK hk) (N.grown hk)
theorem int_mul_str (a : Int) (t : Tok) (x : Str) (u : Tok) : Gives (Builtin.«int.__mul__» ⟨[.int a t, .str x u], []⟩) (.val Value.notImplemented) :=
  .of_wp fun M A E s Q h => by obtain ⟨hp, g, d, tk, os⟩ := s; wp_walk; exact ⟨_, rfl, h⟩
theorem m_imul {prog : Program} {w : World} {A : Around} {E : Value → Shared → Prop} {s : Shared} {x : Str} {n : Int} {t u : Tok} {Q : Value → Shared → Prop} (hr : (decide (n < -(2 ^ 63 : Int)) || decide (n ≥ 2 ^ 63)) = false)
    (hb : ¬ n < 1 → (n == 1 || x.length == 0) = false → ¬ ((x.length : Int) > (2 ^ 63 - 1) / n)) (hl : ¬ n < 1 → (n == 1 || x.length == 0) = false → Builtin.Str.tooLong (x.length * n.toNat) = false)
    (h : (if n < 1 then Made.str Str.empty else if (n == 1 || x.length == 0) = true then Made.val (.str x t) else Made.str ⟨(List.replicate n.toNat x.cps).foldl (· ++ ·) #[]⟩).post Q s) :
    wpAny (model prog w) A (binaryOp .Mult (.int n u) (.str x t)) Q E s :=
  lm_binaryOp_repeat_right (T := "str") (U := "int") (by decide) (fun s' => typeIs_int s' n u) (typeIs_str s x t) F.fills_int_mul noFill_str_mul F.slot_int_mul lm_noRepeat_int repeat_str F.slot_int_index.lookup
    (call_gives F.slot_int_mul (typeIs_int s n u) F.entry_int_mul (F.args_int_mul_2 _ _) (int_mul_str n u x t)
      ⟨rfl, typeIs_str s x t, call_gives F.slot_str_mul (typeIs_str s x t) F.entry_str_mul (F.args_str_mul_2 _ _) (gives_str_mul x n t u hr hb hl) h⟩)
theorem m_imul1 {prog : Program} {w : World} {A : Around} {E : Value → Shared → Prop} {s : Shared} {x : Str} {t u : Tok} {Q : Value → Shared → Prop} (h : Q (.str x t) s) :
    wpAny (model prog w) A (binaryOp .Mult (.int 1 u) (.str x t)) Q E s :=
  m_imul (by decide) (fun _ e => by simp at e) (fun _ e => by simp at e) h
theorem words_D1_2 : True := by
  k_with "binaryOp Mult int str" => ((with_reducible refine m_imul1 ?_))
  k_with "getMethod ref" => (((with_reducible show wpAny _ _ (getMethod (Value.ref _) (PySem.Str.ofString "sub") _) _ _ _); refine m_getsub (by k_asm) (Base.K (by assumption) _ _ look56) rfl rfl ?_))
  k_with "call builtin:re.Pattern.sub" => ((refine m_ind (by k_asm) (by k_asm) (by k_asm) (by assumption) (by decide +kernel) (by assumption) (by assumption) ?_; intro _ _ _ _ _; (try k_sweep)))
  trivial
theorem fn_ind (w : World) (mean : ExcName → Option Value) (mg mb : Str → Option Value) (x : Str) (ys : List Str) (tx t1 : Tok) (hz : x.cps.size ≤ 1000) (hw : (ys.map (·.length)).sum + ys.length ≤ 1048576) (hl : indOf x (Str.ofString " ") = some ys) :
   Fn w mean mg mb 10 64 [.str x tx, .int 1 t1] (fun _ => True) (fun h v h' => ∃ t, v = .str (Txt.join (Str.ofString "") ys) t) := by
  refine Fn.intro fun dp fr gd un g gs dr tk os Q E r B hp ret => ?_
  walk_at "m_enter"
  k_steps
  exact ret _ _ _ (Fr.keep (by assumption)) ⟨_, rfl⟩
/-! the diagram's lines, as plain lists -/
noncomputable def rowsOf : List Int → List Nat
  | [] => []
  | s :: r => if s > 0 then (rowsOf r).map (· + 1) else 0 :: rowsOf r
noncomputable def pageC : List Nat → List Nat
  | [] => []
  | k :: r => List.replicate k 32 ++ 124 :: 10 :: pageC r
noncomputable def pageR (r : List Nat) : Str := ⟨(pageC r).toArray⟩
noncomputable def allR : Nat → List (List Nat)
  | 0 => [[]]
  | n + 1 => [] :: (((allR n).filter fun r => !r.isEmpty).map (·.map (· + 1)) ++ (allR n).map (0 :: ·))
noncomputable def okL (n : Nat) (l : List Int) : Prop := l.length ≤ n ∧ ∀ x ∈ l, x = 1 ∨ x = -1
theorem mem_allR : ∀ (n : Nat) (l : List Int), okL n l → rowsOf l ∈ allR n
  | 0, [], _ => .head _
  | 0, _ :: _, h => absurd h.1 (by simp)
  | n + 1, [], _ => .head _
  | n + 1, x :: l, h => by
    have hl := mem_allR n l ⟨by have := h.1; simp at this; omega, fun y hy => h.2 y (.tail _ hy)⟩
    rcases h.2 x (.head _) with rfl | rfl
    · show (if (1 : Int) > 0 then (rowsOf l).map (· + 1) else 0 :: rowsOf l) ∈ _
      rw [if_pos (by decide)]
      cases e : rowsOf l with
      | nil => exact .head _
      | cons a r =>
        rw [e] at hl
        exact .tail _ (List.mem_append.mpr (.inl (List.mem_map_of_mem (List.mem_filter.mpr ⟨hl, rfl⟩))))
    · show (if (-1 : Int) > 0 then (rowsOf l).map (· + 1) else 0 :: rowsOf l) ∈ _
      rw [if_neg (by decide)]
      exact .tail _ (List.mem_append.mpr (.inr (List.mem_map_of_mem hl)))
noncomputable def okP (t t' : List Nat) : Bool := match indOf ⟨t.toArray⟩ (Str.ofString " ") with
  | some ys => Txt.join (Str.ofString "") ys == ⟨t'.toArray⟩ && Nat.ble ((ys.map (·.length)).sum + ys.length) 1000 && Nat.ble t.length 1000
  | none => false
noncomputable def pgs : List (List Nat × List Nat) := [([], []), ([32, 32, 32, 32, 32, 32, 124, 10], [32, 32, 32, 32, 32, 32, 32, 124, 10]), ([32, 32, 32, 32, 32, 124, 10], [32, 32, 32, 32, 32, 32, 124, 10]), ([32, 32, 32, 32, 32, 124, 10, 32, 32, 32, 32, 32, 124, 10], [32, 32, 32, 32, 32, 32, 124, 10, 32, 32, 32, 32, 32, 32, 124, 10]), ([32, 32, 32, 32, 124, 10], [32, 32, 32, 32, 32, 124, 10]), ([32, 32, 32, 32, 124, 10, 32, 32, 32, 32, 32, 124, 10], [32, 32, 32, 32, 32, 124, 10, 32, 32, 32, 32, 32, 32, 124, 10]), ([32, 32, 32, 32, 124, 10, 32, 32, 32, 32, 124, 10], [32, 32, 32, 32, 32, 124, 10, 32, 32, 32, 32, 32, 124, 10]), ([32, 32, 32, 32, 124, 10, 32, 32, 32, 32, 124, 10, 32, 32, 32, 32, 124, 10], [32, 32, 32, 32, 32, 124, 10, 32, 32, 32, 32, 32, 124, 10, 32, 32, 32, 32, 32, 124, 10]), ([32, 32, 32, 124, 10], [32, 32, 32, 32, 124, 10]), ([32, 32, 32, 124, 10, 32, 32, 32, 32, 32, 124, 10], [32, 32, 32, 32, 124, 10, 32, 32, 32, 32, 32, 32, 124, 10]), ([32, 32, 32, 124, 10, 32, 32, 32, 32, 124, 10], [32, 32, 32, 32, 124, 10, 32, 32, 32, 32, 32, 124, 10]), ([32, 32, 32, 124, 10, 32, 32, 32, 32, 124, 10, 32, 32, 32, 32, 124, 10], [32, 32, 32, 32, 124, 10, 32, 32, 32, 32, 32, 124, 10, 32, 32, 32, 32, 32, 124, 10]), ([32, 32, 32, 124, 10, 32, 32, 32, 124, 10], [32, 32, 32, 32, 124, 10, 32, 32, 32, 32, 124, 10]), ([32, 32, 32, 124, 10, 32, 32, 32, 124, 10, 32, 32, 32, 32, 124, 10], [32, 32, 32, 32, 124, 10, 32, 32, 32, 32, 124, 10, 32, 32, 32, 32, 32, 124, 10]), ([32, 32, 32, 124, 10, 32, 32, 32, 124, 10, 32, 32, 32, 124, 10], [32, 32, 32, 32, 124, 10, 32, 32, 32, 32, 124, 10, 32, 32, 32, 32, 124, 10]), ([32, 32, 32, 124, 10, 32, 32, 32, 124, 10, 32, 32, 32, 124, 10, 32, 32, 32, 124, 10], [32, 32, 32, 32, 124, 10, 32, 32, 32, 32, 124, 10, 32, 32, 32, 32, 124, 10, 32, 32, 32, 32, 124, 10]), ([32, 32, 124, 10], [32, 32, 32, 124, 10]), ([32, 32, 124, 10, 32, 32, 32, 32, 32, 124, 10], [32, 32, 32, 124, 10, 32, 32, 32, 32, 32, 32, 124, 10]), ([32, 32, 124, 10, 32, 32, 32, 32, 124, 10], [32, 32, 32, 124, 10, 32, 32, 32, 32, 32, 124, 10]), ([32, 32, 124, 10, 32, 32, 32, 32, 124, 10, 32, 32, 32, 32, 124, 10], [32, 32, 32, 124, 10, 32, 32, 32, 32, 32, 124, 10, 32, 32, 32, 32, 32, 124, 10]), ([32, 32, 124, 10, 32, 32, 32, 124, 10], [32, 32, 32, 124, 10, 32, 32, 32, 32, 124, 10]), ([32, 32, 124, 10, 32, 32, 32, 124, 10, 32, 32, 32, 32, 124, 10], [32, 32, 32, 124, 10, 32, 32, 32, 32, 124, 10, 32, 32, 32, 32, 32, 124, 10]), ([32, 32, 124, 10, 32, 32, 32, 124, 10, 32, 32, 32, 124, 10], [32, 32, 32, 124, 10, 32, 32, 32, 32, 124, 10, 32, 32, 32, 32, 124, 10]), ([32, 32, 124, 10, 32, 32, 32, 124, 10, 32, 32, 32, 124, 10, 32, 32, 32, 124, 10], [32, 32, 32, 124, 10, 32, 32, 32, 32, 124, 10, 32, 32, 32, 32, 124, 10, 32, 32, 32, 32, 124, 10]), ([32, 32, 124, 10, 32, 32, 124, 10], [32, 32, 32, 124, 10, 32, 32, 32, 124, 10]), ([32, 32, 124, 10, 32, 32, 124, 10, 32, 32, 32, 32, 124, 10], [32, 32, 32, 124, 10, 32, 32, 32, 124, 10, 32, 32, 32, 32, 32, 124, 10]), ([32, 32, 124, 10, 32, 32, 124, 10, 32, 32, 32, 124, 10], [32, 32, 32, 124, 10, 32, 32, 32, 124, 10, 32, 32, 32, 32, 124, 10]), ([32, 32, 124, 10, 32, 32, 124, 10, 32, 32, 32, 124, 10, 32, 32, 32, 124, 10], [32, 32, 32, 124, 10, 32, 32, 32, 124, 10, 32, 32, 32, 32, 124, 10, 32, 32, 32, 32, 124, 10]), ([32, 32, 124, 10, 32, 32, 124, 10, 32, 32, 124, 10], [32, 32, 32, 124, 10, 32, 32, 32, 124, 10, 32, 32, 32, 124, 10]), ([32, 32, 124, 10, 32, 32, 124, 10, 32, 32, 124, 10, 32, 32, 32, 124, 10], [32, 32, 32, 124, 10, 32, 32, 32, 124, 10, 32, 32, 32, 124, 10, 32, 32, 32, 32, 124, 10]), ([32, 32, 124, 10, 32, 32, 124, 10, 32, 32, 124, 10, 32, 32, 124, 10], [32, 32, 32, 124, 10, 32, 32, 32, 124, 10, 32, 32, 32, 124, 10, 32, 32, 32, 124, 10]), ([32, 32, 124, 10, 32, 32, 124, 10, 32, 32, 124, 10, 32, 32, 124, 10, 32, 32, 124, 10], [32, 32, 32, 124, 10, 32, 32, 32, 124, 10, 32, 32, 32, 124, 10, 32, 32, 32, 124, 10, 32, 32, 32, 124, 10]), ([32, 124, 10], [32, 32, 124, 10]), ([32, 124, 10, 32, 32, 32, 32, 32, 124, 10], [32, 32, 124, 10, 32, 32, 32, 32, 32, 32, 124, 10]), ([32, 124, 10, 32, 32, 32, 32, 124, 10], [32, 32, 124, 10, 32, 32, 32, 32, 32, 124, 10]), ([32, 124, 10, 32, 32, 32, 32, 124, 10, 32, 32, 32, 32, 124, 10], [32, 32, 124, 10, 32, 32, 32, 32, 32, 124, 10, 32, 32, 32, 32, 32, 124, 10]), ([32, 124, 10, 32, 32, 32, 124, 10], [32, 32, 124, 10, 32, 32, 32, 32, 124, 10]), ([32, 124, 10, 32, 32, 32, 124, 10, 32, 32, 32, 32, 124, 10], [32, 32, 124, 10, 32, 32, 32, 32, 124, 10, 32, 32, 32, 32, 32, 124, 10]), ([32, 124, 10, 32, 32, 32, 124, 10, 32, 32, 32, 124, 10], [32, 32, 124, 10, 32, 32, 32, 32, 124, 10, 32, 32, 32, 32, 124, 10]), ([32, 124, 10, 32, 32, 32, 124, 10, 32, 32, 32, 124, 10, 32, 32, 32, 124, 10], [32, 32, 124, 10, 32, 32, 32, 32, 124, 10, 32, 32, 32, 32, 124, 10, 32, 32, 32, 32, 124, 10]), ([32, 124, 10, 32, 32, 124, 10], [32, 32, 124, 10, 32, 32, 32, 124, 10]), ([32, 124, 10, 32, 32, 124, 10, 32, 32, 32, 32, 124, 10], [32, 32, 124, 10, 32, 32, 32, 124, 10, 32, 32, 32, 32, 32, 124, 10]), ([32, 124, 10, 32, 32, 124, 10, 32, 32, 32, 124, 10], [32, 32, 124, 10, 32, 32, 32, 124, 10, 32, 32, 32, 32, 124, 10]), ([32, 124, 10, 32, 32, 124, 10, 32, 32, 32, 124, 10, 32, 32, 32, 124, 10], [32, 32, 124, 10, 32, 32, 32, 124, 10, 32, 32, 32, 32, 124, 10, 32, 32, 32, 32, 124, 10]), ([32, 124, 10, 32, 32, 124, 10, 32, 32, 124, 10], [32, 32, 124, 10, 32, 32, 32, 124, 10, 32, 32, 32, 124, 10]), ([32, 124, 10, 32, 32, 124, 10, 32, 32, 124, 10, 32, 32, 32, 124, 10], [32, 32, 124, 10, 32, 32, 32, 124, 10, 32, 32, 32, 124, 10, 32, 32, 32, 32, 124, 10]), ([32, 124, 10, 32, 32, 124, 10, 32, 32, 124, 10, 32, 32, 124, 10], [32, 32, 124, 10, 32, 32, 32, 124, 10, 32, 32, 32, 124, 10, 32, 32, 32, 124, 10]), ([32, 124, 10, 32, 32, 124, 10, 32, 32, 124, 10, 32, 32, 124, 10, 32, 32, 124, 10], [32, 32, 124, 10, 32, 32, 32, 124, 10, 32, 32, 32, 124, 10, 32, 32, 32, 124, 10, 32, 32, 32, 124, 10]), ([32, 124, 10, 32, 124, 10], [32, 32, 124, 10, 32, 32, 124, 10]), ([32, 124, 10, 32, 124, 10, 32, 32, 32, 32, 124, 10], [32, 32, 124, 10, 32, 32, 124, 10, 32, 32, 32, 32, 32, 124, 10]), ([32, 124, 10, 32, 124, 10, 32, 32, 32, 124, 10], [32, 32, 124, 10, 32, 32, 124, 10, 32, 32, 32, 32, 124, 10]), ([32, 124, 10, 32, 124, 10, 32, 32, 32, 124, 10, 32, 32, 32, 124, 10], [32, 32, 124, 10, 32, 32, 124, 10, 32, 32, 32, 32, 124, 10, 32, 32, 32, 32, 124, 10]), ([32, 124, 10, 32, 124, 10, 32, 32, 124, 10], [32, 32, 124, 10, 32, 32, 124, 10, 32, 32, 32, 124, 10]), ([32, 124, 10, 32, 124, 10, 32, 32, 124, 10, 32, 32, 32, 124, 10], [32, 32, 124, 10, 32, 32, 124, 10, 32, 32, 32, 124, 10, 32, 32, 32, 32, 124, 10]), ([32, 124, 10, 32, 124, 10, 32, 32, 124, 10, 32, 32, 124, 10], [32, 32, 124, 10, 32, 32, 124, 10, 32, 32, 32, 124, 10, 32, 32, 32, 124, 10]), ([32, 124, 10, 32, 124, 10, 32, 32, 124, 10, 32, 32, 124, 10, 32, 32, 124, 10], [32, 32, 124, 10, 32, 32, 124, 10, 32, 32, 32, 124, 10, 32, 32, 32, 124, 10, 32, 32, 32, 124, 10]), ([32, 124, 10, 32, 124, 10, 32, 124, 10], [32, 32, 124, 10, 32, 32, 124, 10, 32, 32, 124, 10]), ([32, 124, 10, 32, 124, 10, 32, 124, 10, 32, 32, 32, 124, 10], [32, 32, 124, 10, 32, 32, 124, 10, 32, 32, 124, 10, 32, 32, 32, 32, 124, 10]), ([32, 124, 10, 32, 124, 10, 32, 124, 10, 32, 32, 124, 10], [32, 32, 124, 10, 32, 32, 124, 10, 32, 32, 124, 10, 32, 32, 32, 124, 10]), ([32, 124, 10, 32, 124, 10, 32, 124, 10, 32, 32, 124, 10, 32, 32, 124, 10], [32, 32, 124, 10, 32, 32, 124, 10, 32, 32, 124, 10, 32, 32, 32, 124, 10, 32, 32, 32, 124, 10]), ([32, 124, 10, 32, 124, 10, 32, 124, 10, 32, 124, 10], [32, 32, 124, 10, 32, 32, 124, 10, 32, 32, 124, 10, 32, 32, 124, 10]), ([32, 124, 10, 32, 124, 10, 32, 124, 10, 32, 124, 10, 32, 32, 124, 10], [32, 32, 124, 10, 32, 32, 124, 10, 32, 32, 124, 10, 32, 32, 124, 10, 32, 32, 32, 124, 10]), ([32, 124, 10, 32, 124, 10, 32, 124, 10, 32, 124, 10, 32, 124, 10], [32, 32, 124, 10, 32, 32, 124, 10, 32, 32, 124, 10, 32, 32, 124, 10, 32, 32, 124, 10]), ([32, 124, 10, 32, 124, 10, 32, 124, 10, 32, 124, 10, 32, 124, 10, 32, 124, 10], [32, 32, 124, 10, 32, 32, 124, 10, 32, 32, 124, 10, 32, 32, 124, 10, 32, 32, 124, 10, 32, 32, 124, 10]), ([124, 10], [32, 124, 10]), ([124, 10, 32, 32, 32, 32, 32, 124, 10], [32, 124, 10, 32, 32, 32, 32, 32, 32, 124, 10]), ([124, 10, 32, 32, 32, 32, 124, 10], [32, 124, 10, 32, 32, 32, 32, 32, 124, 10]), ([124, 10, 32, 32, 32, 32, 124, 10, 32, 32, 32, 32, 124, 10], [32, 124, 10, 32, 32, 32, 32, 32, 124, 10, 32, 32, 32, 32, 32, 124, 10]), ([124, 10, 32, 32, 32, 124, 10], [32, 124, 10, 32, 32, 32, 32, 124, 10]), ([124, 10, 32, 32, 32, 124, 10, 32, 32, 32, 32, 124, 10], [32, 124, 10, 32, 32, 32, 32, 124, 10, 32, 32, 32, 32, 32, 124, 10]), ([124, 10, 32, 32, 32, 124, 10, 32, 32, 32, 124, 10], [32, 124, 10, 32, 32, 32, 32, 124, 10, 32, 32, 32, 32, 124, 10]), ([124, 10, 32, 32, 32, 124, 10, 32, 32, 32, 124, 10, 32, 32, 32, 124, 10], [32, 124, 10, 32, 32, 32, 32, 124, 10, 32, 32, 32, 32, 124, 10, 32, 32, 32, 32, 124, 10]), ([124, 10, 32, 32, 124, 10], [32, 124, 10, 32, 32, 32, 124, 10]), ([124, 10, 32, 32, 124, 10, 32, 32, 32, 32, 124, 10], [32, 124, 10, 32, 32, 32, 124, 10, 32, 32, 32, 32, 32, 124, 10]), ([124, 10, 32, 32, 124, 10, 32, 32, 32, 124, 10], [32, 124, 10, 32, 32, 32, 124, 10, 32, 32, 32, 32, 124, 10]), ([124, 10, 32, 32, 124, 10, 32, 32, 32, 124, 10, 32, 32, 32, 124, 10], [32, 124, 10, 32, 32, 32, 124, 10, 32, 32, 32, 32, 124, 10, 32, 32, 32, 32, 124, 10]), ([124, 10, 32, 32, 124, 10, 32, 32, 124, 10], [32, 124, 10, 32, 32, 32, 124, 10, 32, 32, 32, 124, 10]), ([124, 10, 32, 32, 124, 10, 32, 32, 124, 10, 32, 32, 32, 124, 10], [32, 124, 10, 32, 32, 32, 124, 10, 32, 32, 32, 124, 10, 32, 32, 32, 32, 124, 10]), ([124, 10, 32, 32, 124, 10, 32, 32, 124, 10, 32, 32, 124, 10], [32, 124, 10, 32, 32, 32, 124, 10, 32, 32, 32, 124, 10, 32, 32, 32, 124, 10]), ([124, 10, 32, 32, 124, 10, 32, 32, 124, 10, 32, 32, 124, 10, 32, 32, 124, 10], [32, 124, 10, 32, 32, 32, 124, 10, 32, 32, 32, 124, 10, 32, 32, 32, 124, 10, 32, 32, 32, 124, 10]), ([124, 10, 32, 124, 10], [32, 124, 10, 32, 32, 124, 10]), ([124, 10, 32, 124, 10, 32, 32, 32, 32, 124, 10], [32, 124, 10, 32, 32, 124, 10, 32, 32, 32, 32, 32, 124, 10]), ([124, 10, 32, 124, 10, 32, 32, 32, 124, 10], [32, 124, 10, 32, 32, 124, 10, 32, 32, 32, 32, 124, 10]), ([124, 10, 32, 124, 10, 32, 32, 32, 124, 10, 32, 32, 32, 124, 10], [32, 124, 10, 32, 32, 124, 10, 32, 32, 32, 32, 124, 10, 32, 32, 32, 32, 124, 10]), ([124, 10, 32, 124, 10, 32, 32, 124, 10], [32, 124, 10, 32, 32, 124, 10, 32, 32, 32, 124, 10]), ([124, 10, 32, 124, 10, 32, 32, 124, 10, 32, 32, 32, 124, 10], [32, 124, 10, 32, 32, 124, 10, 32, 32, 32, 124, 10, 32, 32, 32, 32, 124, 10]), ([124, 10, 32, 124, 10, 32, 32, 124, 10, 32, 32, 124, 10], [32, 124, 10, 32, 32, 124, 10, 32, 32, 32, 124, 10, 32, 32, 32, 124, 10]), ([124, 10, 32, 124, 10, 32, 32, 124, 10, 32, 32, 124, 10, 32, 32, 124, 10], [32, 124, 10, 32, 32, 124, 10, 32, 32, 32, 124, 10, 32, 32, 32, 124, 10, 32, 32, 32, 124, 10]), ([124, 10, 32, 124, 10, 32, 124, 10], [32, 124, 10, 32, 32, 124, 10, 32, 32, 124, 10]), ([124, 10, 32, 124, 10, 32, 124, 10, 32, 32, 32, 124, 10], [32, 124, 10, 32, 32, 124, 10, 32, 32, 124, 10, 32, 32, 32, 32, 124, 10]), ([124, 10, 32, 124, 10, 32, 124, 10, 32, 32, 124, 10], [32, 124, 10, 32, 32, 124, 10, 32, 32, 124, 10, 32, 32, 32, 124, 10]), ([124, 10, 32, 124, 10, 32, 124, 10, 32, 32, 124, 10, 32, 32, 124, 10], [32, 124, 10, 32, 32, 124, 10, 32, 32, 124, 10, 32, 32, 32, 124, 10, 32, 32, 32, 124, 10]), ([124, 10, 32, 124, 10, 32, 124, 10, 32, 124, 10], [32, 124, 10, 32, 32, 124, 10, 32, 32, 124, 10, 32, 32, 124, 10]), ([124, 10, 32, 124, 10, 32, 124, 10, 32, 124, 10, 32, 32, 124, 10], [32, 124, 10, 32, 32, 124, 10, 32, 32, 124, 10, 32, 32, 124, 10, 32, 32, 32, 124, 10]), ([124, 10, 32, 124, 10, 32, 124, 10, 32, 124, 10, 32, 124, 10], [32, 124, 10, 32, 32, 124, 10, 32, 32, 124, 10, 32, 32, 124, 10, 32, 32, 124, 10]), ([124, 10, 32, 124, 10, 32, 124, 10, 32, 124, 10, 32, 124, 10, 32, 124, 10], [32, 124, 10, 32, 32, 124, 10, 32, 32, 124, 10, 32, 32, 124, 10, 32, 32, 124, 10, 32, 32, 124, 10]), ([124, 10, 124, 10], [32, 124, 10, 32, 124, 10]), ([124, 10, 124, 10, 32, 32, 32, 32, 124, 10], [32, 124, 10, 32, 124, 10, 32, 32, 32, 32, 32, 124, 10]), ([124, 10, 124, 10, 32, 32, 32, 124, 10], [32, 124, 10, 32, 124, 10, 32, 32, 32, 32, 124, 10]), ([124, 10, 124, 10, 32, 32, 32, 124, 10, 32, 32, 32, 124, 10], [32, 124, 10, 32, 124, 10, 32, 32, 32, 32, 124, 10, 32, 32, 32, 32, 124, 10]), ([124, 10, 124, 10, 32, 32, 124, 10], [32, 124, 10, 32, 124, 10, 32, 32, 32, 124, 10]), ([124, 10, 124, 10, 32, 32, 124, 10, 32, 32, 32, 124, 10], [32, 124, 10, 32, 124, 10, 32, 32, 32, 124, 10, 32, 32, 32, 32, 124, 10]), ([124, 10, 124, 10, 32, 32, 124, 10, 32, 32, 124, 10], [32, 124, 10, 32, 124, 10, 32, 32, 32, 124, 10, 32, 32, 32, 124, 10]), ([124, 10, 124, 10, 32, 32, 124, 10, 32, 32, 124, 10, 32, 32, 124, 10], [32, 124, 10, 32, 124, 10, 32, 32, 32, 124, 10, 32, 32, 32, 124, 10, 32, 32, 32, 124, 10]), ([124, 10, 124, 10, 32, 124, 10], [32, 124, 10, 32, 124, 10, 32, 32, 124, 10]), ([124, 10, 124, 10, 32, 124, 10, 32, 32, 32, 124, 10], [32, 124, 10, 32, 124, 10, 32, 32, 124, 10, 32, 32, 32, 32, 124, 10]), ([124, 10, 124, 10, 32, 124, 10, 32, 32, 124, 10], [32, 124, 10, 32, 124, 10, 32, 32, 124, 10, 32, 32, 32, 124, 10]), ([124, 10, 124, 10, 32, 124, 10, 32, 32, 124, 10, 32, 32, 124, 10], [32, 124, 10, 32, 124, 10, 32, 32, 124, 10, 32, 32, 32, 124, 10, 32, 32, 32, 124, 10]), ([124, 10, 124, 10, 32, 124, 10, 32, 124, 10], [32, 124, 10, 32, 124, 10, 32, 32, 124, 10, 32, 32, 124, 10]), ([124, 10, 124, 10, 32, 124, 10, 32, 124, 10, 32, 32, 124, 10], [32, 124, 10, 32, 124, 10, 32, 32, 124, 10, 32, 32, 124, 10, 32, 32, 32, 124, 10]), ([124, 10, 124, 10, 32, 124, 10, 32, 124, 10, 32, 124, 10], [32, 124, 10, 32, 124, 10, 32, 32, 124, 10, 32, 32, 124, 10, 32, 32, 124, 10]), ([124, 10, 124, 10, 32, 124, 10, 32, 124, 10, 32, 124, 10, 32, 124, 10], [32, 124, 10, 32, 124, 10, 32, 32, 124, 10, 32, 32, 124, 10, 32, 32, 124, 10, 32, 32, 124, 10]), ([124, 10, 124, 10, 124, 10], [32, 124, 10, 32, 124, 10, 32, 124, 10]), ([124, 10, 124, 10, 124, 10, 32, 32, 32, 124, 10], [32, 124, 10, 32, 124, 10, 32, 124, 10, 32, 32, 32, 32, 124, 10]), ([124, 10, 124, 10, 124, 10, 32, 32, 124, 10], [32, 124, 10, 32, 124, 10, 32, 124, 10, 32, 32, 32, 124, 10]), ([124, 10, 124, 10, 124, 10, 32, 32, 124, 10, 32, 32, 124, 10], [32, 124, 10, 32, 124, 10, 32, 124, 10, 32, 32, 32, 124, 10, 32, 32, 32, 124, 10]), ([124, 10, 124, 10, 124, 10, 32, 124, 10], [32, 124, 10, 32, 124, 10, 32, 124, 10, 32, 32, 124, 10]), ([124, 10, 124, 10, 124, 10, 32, 124, 10, 32, 32, 124, 10], [32, 124, 10, 32, 124, 10, 32, 124, 10, 32, 32, 124, 10, 32, 32, 32, 124, 10]), ([124, 10, 124, 10, 124, 10, 32, 124, 10, 32, 124, 10], [32, 124, 10, 32, 124, 10, 32, 124, 10, 32, 32, 124, 10, 32, 32, 124, 10]), ([124, 10, 124, 10, 124, 10, 32, 124, 10, 32, 124, 10, 32, 124, 10], [32, 124, 10, 32, 124, 10, 32, 124, 10, 32, 32, 124, 10, 32, 32, 124, 10, 32, 32, 124, 10]), ([124, 10, 124, 10, 124, 10, 124, 10], [32, 124, 10, 32, 124, 10, 32, 124, 10, 32, 124, 10]), ([124, 10, 124, 10, 124, 10, 124, 10, 32, 32, 124, 10], [32, 124, 10, 32, 124, 10, 32, 124, 10, 32, 124, 10, 32, 32, 32, 124, 10]), ([124, 10, 124, 10, 124, 10, 124, 10, 32, 124, 10], [32, 124, 10, 32, 124, 10, 32, 124, 10, 32, 124, 10, 32, 32, 124, 10]), ([124, 10, 124, 10, 124, 10, 124, 10, 32, 124, 10, 32, 124, 10], [32, 124, 10, 32, 124, 10, 32, 124, 10, 32, 124, 10, 32, 32, 124, 10, 32, 32, 124, 10]), ([124, 10, 124, 10, 124, 10, 124, 10, 124, 10], [32, 124, 10, 32, 124, 10, 32, 124, 10, 32, 124, 10, 32, 124, 10]), ([124, 10, 124, 10, 124, 10, 124, 10, 124, 10, 32, 124, 10], [32, 124, 10, 32, 124, 10, 32, 124, 10, 32, 124, 10, 32, 124, 10, 32, 32, 124, 10]), ([124, 10, 124, 10, 124, 10, 124, 10, 124, 10, 124, 10], [32, 124, 10, 32, 124, 10, 32, 124, 10, 32, 124, 10, 32, 124, 10, 32, 124, 10]), ([124, 10, 124, 10, 124, 10, 124, 10, 124, 10, 124, 10, 124, 10], [32, 124, 10, 32, 124, 10, 32, 124, 10, 32, 124, 10, 32, 124, 10, 32, 124, 10, 32, 124, 10])]
theorem pgs_are : (allR 7).map (fun r => (pageC r, pageC (r.map (· + 1)))) = pgs := by decide +kernel
theorem all_split {α : Type} {p : α → Bool} (n : Nat) (l : List α) (h1 : (l.take n).all p = true) (h2 : (l.drop n).all p = true) : l.all p = true := by
  rw [← List.take_append_drop n l, List.all_append, h1, h2]
  rfl
theorem pgs_ok : pgs.all (fun p => okP p.1 p.2) = true := all_split 32 _ (by decide +kernel) (all_split 32 _ (by decide +kernel) (all_split 32 _ (by decide +kernel) (all_split 32 _ (by decide +kernel) (all_split 32 _ (by decide +kernel) (all_split 32 _ (by decide +kernel) (all_split 32 _ (by decide +kernel) (by decide +kernel)))))))
theorem mem_of_are {α β : Type} {f : α → β} {xs : List α} {ys : List β} {x : α} (e : xs.map f = ys) (h : x ∈ xs) : f x ∈ ys := e ▸ List.mem_map_of_mem h
theorem all_of {α : Type} {p : α → Bool} {xs : List α} {x : α} (h : xs.all p = true) (hx : x ∈ xs) : p x = true := List.all_eq_true.1 h _ hx
theorem rowsOf_one (l : List Int) : rowsOf (1 :: l) = (rowsOf l).map (· + 1) := rfl
theorem rowsOf_neg (l : List Int) : rowsOf (-1 :: l) = 0 :: rowsOf l := rfl
theorem rows_ok {l : List Int} (h : okL 7 l) : okP (pageC (rowsOf l)) (pageC ((rowsOf l).map (· + 1))) = true := by
  have h1 := mem_of_are pgs_are (mem_allR 7 l h)
  have h2 := all_of pgs_ok h1
  exact h2
noncomputable def pageOf (l : List Int) : Str := pageR (rowsOf l)
theorem fn_indR (w : World) (mean : ExcName → Option Value) (mg mb : Str → Option Value) (l : List Int) (hl : okL 7 l) (x : Str) (hx : x = pageOf l) (tx t1 : Tok) :
   Fn w mean mg mb 10 64 [.str x tx, .int 1 t1] (fun _ => True) (fun h v h' => ∃ t, v = .str (pageOf (1 :: l)) t) := by
  have h := rows_ok hl
  subst hx
  have ep : (⟨(pageC (rowsOf l)).toArray⟩ : Str) = pageOf l := rfl
  unfold okP at h
  rw [ep] at h
  cases e : indOf (pageOf l) (Str.ofString " ") with
  | none => rw [e] at h; cases h
  | some ys =>
    rw [e] at h
    dsimp only at h
    simp only [Bool.and_eq_true] at h
    obtain ⟨⟨h1, h2⟩, h3⟩ := h
    have e1 : Txt.join (Str.ofString "") ys = pageOf (1 :: l) := (eq_of_beq h1).trans (by unfold pageOf; rw [rowsOf_one]; rfl)
    rw [← e1]
    have h4 := Nat.le_of_ble_eq_true h2
    exact fn_ind w mean mg mb (pageOf l) ys tx t1 (Nat.le_of_ble_eq_true h3) (by omega) e
theorem pageC_le : ∀ (rs : List Nat) (b : Nat), (∀ k ∈ rs, k ≤ b) → (pageC rs).length ≤ rs.length * (b + 2)
  | [], b, _ => Nat.zero_le _
  | k :: rs, b, h => by
    have h1 := pageC_le rs b fun k hk => h k (.tail _ hk)
    have h2 := h k (.head _)
    show (List.replicate k 32 ++ 124 :: 10 :: pageC rs).length ≤ (rs.length + 1) * (b + 2)
    rw [List.length_append, List.length_replicate, List.length_cons, List.length_cons, Nat.add_mul]
    omega
theorem rowsOf_le : ∀ (l : List Int), (rowsOf l).length ≤ l.length ∧ ∀ k ∈ rowsOf l, k ≤ l.length
  | [] => ⟨Nat.le_refl _, fun _ h => nomatch h⟩
  | s :: l => by
    obtain ⟨h1, h2⟩ := rowsOf_le l
    unfold rowsOf
    split
    · refine ⟨by simp; omega, fun k hk => ?_⟩
      obtain ⟨j, hj, rfl⟩ := List.mem_map.mp hk
      have := h2 j hj
      simp; omega
    · refine ⟨by simp; omega, fun k hk => ?_⟩
      rcases List.mem_cons.mp hk with rfl | hk
      · simp
      · have := h2 k hk
        simp; omega
theorem pageOf_le {n : Nat} {l : List Int} (h : okL n l) : (pageOf l).length ≤ n * (n + 2) := by
  obtain ⟨h1, h2⟩ := rowsOf_le l
  have h3 := pageC_le (rowsOf l) n fun k hk => Nat.le_trans (h2 k hk) h.1
  have h4 : (pageOf l).length = (pageC (rowsOf l)).length := by simp [pageOf, pageR, Str.length]
  rw [h4]
  exact Nat.le_trans h3 (Nat.mul_le_mul_right _ (Nat.le_trans h1 h.1))
theorem cat_page (l : List Int) : Str.ofString "|\n" ++ pageOf l = pageOf (-1 :: l) := by
  unfold pageOf
  rw [rowsOf_neg]
  have e : Str.ofString "|\n" = ⟨#[124, 10]⟩ := by decide +kernel
  rw [e]
  show (⟨#[124, 10] ++ (pageC (rowsOf l)).toArray⟩ : Str) = ⟨(List.replicate 0 32 ++ 124 :: 10 :: pageC (rowsOf l)).toArray⟩
  simp
end
section -- D3
set_option maxHeartbeats 1000000
theorem words_D3_1 : True := by
  k_with_none
  w_top off
  k_with "m_enter" => ((
  (have Xᵥ := Base.K (by assumption)); (have Tᵥ := Base.T (by assumption)); revert Tᵥ; revert Xᵥ; k_fill; intro _ _
  k_dflt (refine' enter0 ?k1ᵥ ?k2ᵥ ?k3ᵥ ?k4ᵥ ?k5ᵥ ?k6ᵥ ?k7ᵥ ?k8ᵥ ?k9ᵥ ?k10ᵥ ?_; (case k1ᵥ => assumption); (case k2ᵥ => exact Room.depth (by assumption)); (case k3ᵥ => k_is); (case k4ᵥ => k_is); (case k5ᵥ => first | exact BindsTo.of_eq rfl | exact binds_K (by k_in) rfl (by k_is) rfl rfl rfl | fail "m_enter: no rule for these arguments"); (case k6ᵥ => exact locs rfl); (case k7ᵥ => decide); (case k8ᵥ => exact rfl); (case k9ᵥ => exact rfl); (case k10ᵥ => exact rfl); k_whole; intro _ _ _ _; (try dsimp only); (try k_fold))))
  trivial
theorem dg_ok {ss pre post : List Int} {k : Int} (hn : ss.length = 8) (hp : ∀ x ∈ ss, x = 1 ∨ x = -1) (e : ss.reverse = pre ++ k :: post) : okL 7 pre.reverse := by
  have h1 : ss.reverse.length = (pre ++ k :: post).length := congrArg List.length e
  rw [List.length_reverse, List.length_append, List.length_cons, hn] at h1
  refine ⟨by rw [List.length_reverse]; omega, fun x hx => hp x ?_⟩
  rw [← List.mem_reverse, e]
  exact List.mem_append_left _ (List.mem_reverse.mp hx)
theorem dg_mem {ss pre post : List Int} {k : Int} (hp : ∀ x ∈ ss, x = 1 ∨ x = -1) (e : ss.reverse = pre ++ k :: post) : k = 1 ∨ k = -1 :=
  hp k (List.mem_reverse.mp (by rw [e]; exact List.mem_append_right _ (.head _)))
theorem dg_len {ss pre post : List Int} {k : Int} (hn : ss.length = 8) (hp : ∀ x ∈ ss, x = 1 ∨ x = -1) (e : ss.reverse = pre ++ k :: post) (s : Int) (hs : s = 1 ∨ s = -1) : (pageOf (s :: pre.reverse)).length ≤ 80 := by
  have h := dg_ok hn hp e
  refine pageOf_le (n := 8) ⟨by have := h.1; simp at this ⊢; omega, fun x hx => ?_⟩
  rcases List.mem_cons.mp hx with rfl | hx
  · exact hs
  · exact h.2 x hx
theorem dg_start : Str.ofString "" = pageOf ([] : List Int).reverse ∧ (Str.ofString "").length ≤ 80 := by decide +kernel
theorem dg_one {ss pre post : List Int} {k : Int} (hn : ss.length = 8) (hp : ∀ x ∈ ss, x = 1 ∨ x = -1) (e : ss.reverse = pre ++ k :: post) (hk : 0 < k) : pageOf (1 :: pre.reverse) = pageOf (pre ++ [k]).reverse ∧ (pageOf (1 :: pre.reverse)).length ≤ 80 := by
  refine ⟨?_, dg_len hn hp e 1 (.inl rfl)⟩
  rcases dg_mem hp e with rfl | rfl
  · rw [List.reverse_append]; rfl
  · omega
theorem dg_neg {ss pre post : List Int} {k : Int} {p q : Str} (hn : ss.length = 8) (hp : ∀ x ∈ ss, x = 1 ∨ x = -1) (e : ss.reverse = pre ++ k :: post) (hk : ¬ 0 < k) (hq : p = pageOf pre.reverse) (hc : q = Str.ofString "|\n" ++ p) : q = pageOf (pre ++ [k]).reverse ∧ q.length ≤ 80 := by
  subst hq hc
  rw [cat_page]
  refine ⟨?_, dg_len hn hp e (-1) (.inr rfl)⟩
  rcases dg_mem hp e with rfl | rfl
  · omega
  · rw [List.reverse_append]; rfl
theorem words_D3_2 : True := by
  k_with "fn_room" => ((refine roomUp (by assumption) rfl ?_ ?_ <;> ((try dsimp only [Around.deeper, Around.in1, Around.mark]); first | exact Nat.add_le_add_left (by decide) _ | exact upLe (by decide) | exact upLe2 (by decide) | omega)))
  k_with "call ref" => (((with_reducible show wpAny _ _ (call (Value.ref 64) _) _ _ _); refine callFn (fn_indR _ _ _ _ _ (dg_ok (by assumption) (by assumption) (by assumption)) _ (by assumption) _ _) (by walk_at "fn_room") (by assumption) (by k_asm) (by k_asm) trivial ?_; intro _ _ _ R0ᵥᵥ _ _ G0ᵥ; clear G0ᵥ; obtain ⟨_, R0ᵥᵥ⟩ := R0ᵥᵥ; subst R0ᵥᵥ; (try k_sweep))); (try (revert G0ᵥ; intro _))
  trivial
theorem fn_dgm (w : World) (mean : ExcName → Option Value) (mg mb : Str → Option Value) (l : Addr) (vs : List Value) (ss : List Int) :
   Fn w mean mg mb 30 278 [.ref l] (fun h => h.IsList l vs.toArray ∧ IntsAre vs ss ∧ ss.length = 8 ∧ ∀ x ∈ ss, x = 1 ∨ x = -1) (fun h v h' => ∃ t, v = .str (pageOf ss) t) := by
  refine Fn.intro fun dp fr gd un g gs dr tk os Q E r B Pᵢ ret => ?_
  have hl := Pᵢ.1
  have hi := Pᵢ.2.1
  have hn := Pᵢ.2.2.1
  have hp := Pᵢ.2.2.2
  clear Pᵢ
  walk_at "m_enter"
  (k_with "pyIter ref" => k_state (fun pre (page : Str) => page = pageOf pre.reverse ∧ page.length ≤ 80) "page")
  (k_with "state" => first | exact dg_start | exact dg_one (by assumption) (by assumption) (by assumption) (by assumption) | exact dg_neg (by assumption) (by assumption) (by assumption) (by assumption) (by assumption) (by assumption) | exact dg_neg (by assumption) (by assumption) (by assumption) (by assumption) (by assumption) rfl | exact dg_neg (by assumption) (by assumption) (by assumption) (by omega) (by assumption) rfl | (trace_state; fail))
  k_steps
  (rename _ = pageOf (List.reverse (List.reverse _)) => hE)
  rw [List.reverse_reverse] at hE
  subst hE
  exact ret _ _ _ (Fr.keep (by assumption)) ⟨_, rfl⟩
end
section -- TX
set_option maxHeartbeats 4000000
/-! a text cut at one sign -/
noncomputable def jn (c : Nat) : List (List Nat) → List Nat
  | [] => []
  | [a] => a
  | a :: b :: r => a ++ c :: jn c (b :: r)
theorem app_inj {c : Nat} : ∀ {a b x y : List Nat}, c ∉ a → c ∉ b → a ++ c :: x = b ++ c :: y → a = b ∧ x = y
  | [], [], x, y, _, _, e => ⟨rfl, (List.cons.inj e).2⟩
  | [], p :: b, x, y, _, hb, e => absurd ((List.cons.inj e).1 ▸ .head _) hb
  | p :: a, [], x, y, ha, _, e => absurd ((List.cons.inj e).1 ▸ .head _) ha
  | p :: a, q :: b, x, y, ha, hb, e => by
    obtain ⟨e1, e2⟩ := List.cons.inj e
    obtain ⟨e3, e4⟩ := app_inj (fun h => ha (.tail _ h)) (fun h => hb (.tail _ h)) e2
    exact ⟨by rw [e1, e3], e4⟩
theorem jn_inj {c : Nat} : ∀ (xs ys : List (List Nat)), xs ≠ [] → ys ≠ [] → (∀ a ∈ xs, c ∉ a) → (∀ b ∈ ys, c ∉ b) → jn c xs = jn c ys → xs = ys
  | [], _, h, _, _, _, _ => absurd rfl h
  | _ :: _, [], _, h, _, _, _ => absurd rfl h
  | [a], [b], _, _, _, _, e => by rw [show a = b from e]
  | [a], b :: b' :: r, _, _, ha, _, e => absurd (show c ∈ a from (show a = b ++ c :: jn c (b' :: r) from e) ▸ List.mem_append_right _ (.head _)) (ha a (.head _))
  | a :: a' :: r, [b], _, _, _, hb, e => absurd (show c ∈ b from (show a ++ c :: jn c (a' :: r) = b from e) ▸ List.mem_append_right _ (.head _)) (hb b (.head _))
  | a :: a' :: r, b :: b' :: r', _, _, ha, hb, e => by
    obtain ⟨e1, e2⟩ := app_inj (ha a (.head _)) (hb b (.head _)) (show a ++ c :: jn c (a' :: r) = b ++ c :: jn c (b' :: r') from e)
    have e3 := jn_inj (a' :: r) (b' :: r') (by simp) (by simp) (fun p hp => ha p (.tail _ hp)) (fun p hp => hb p (.tail _ hp)) e2
    rw [e1, e3]
theorem join_codes (c : Nat) : ∀ xs : List Str, (Str.join ⟨#[c]⟩ xs).cps.toList = jn c (xs.map (·.cps.toList))
  | [] => rfl
  | [x] => rfl
  | x :: y :: r => by
    show (x ++ (⟨#[c]⟩ : Str) ++ Str.join ⟨#[c]⟩ (y :: r)).cps.toList = x.cps.toList ++ c :: jn c ((y :: r).map (·.cps.toList))
    rw [← join_codes c (y :: r), Str.cps_append, Str.cps_append]
    simp
theorem map_cps_inj : ∀ {xs ys : List Str}, xs.map (·.cps.toList) = ys.map (·.cps.toList) → xs = ys
  | [], [], _ => rfl
  | [], _ :: _, e => by cases e
  | _ :: _, [], e => by cases e
  | ⟨⟨a⟩⟩ :: xs, ⟨⟨b⟩⟩ :: ys, e => by
    obtain ⟨e1, e2⟩ := List.cons.inj e
    rw [map_cps_inj e2, show a = b from e1]
theorem split_of {x : Str} {c : Nat} {ls : List Str} (hne : ls ≠ []) (hf : ∀ l ∈ ls, c ∉ l.cps.toList) (hj : jn c (ls.map (·.cps.toList)) = x.cps.toList) : Txt.split x ⟨#[c]⟩ = ls := by
  have h1 := StrLaws.join_split x ⟨#[c]⟩
  have h2 := join_codes c (Txt.split x ⟨#[c]⟩)
  rw [h1] at h2
  refine map_cps_inj (jn_inj _ _ ?_ (by simpa using hne) ?_ ?_ (h2.symm.trans hj.symm))
  · have := split_pos x ⟨#[c]⟩
    intro e
    rw [List.map_eq_nil_iff.mp e] at this
    simp at this
  · intro a ha
    obtain ⟨p, hp, rfl⟩ := List.mem_map.mp ha
    exact StrLaws.split_free x c p hp
  · intro a ha
    obtain ⟨p, hp, rfl⟩ := List.mem_map.mp ha
    exact hf p hp
noncomputable def lineS (k : Nat) : Str := ⟨(List.replicate k 32 ++ [124]).toArray⟩
theorem page_jn : ∀ rs : List Nat, jn 10 ((rs.map fun k => List.replicate k 32 ++ [124]) ++ [[]]) = pageC rs
  | [] => rfl
  | k :: rs => by
    have h := page_jn rs
    have e : ∃ a r, (rs.map fun k => List.replicate k 32 ++ [124]) ++ [[]] = a :: r := by
      cases rs with
      | nil => exact ⟨_, _, rfl⟩
      | cons a r => exact ⟨_, _, rfl⟩
    obtain ⟨a, r, e⟩ := e
    show jn 10 ((List.replicate k 32 ++ [124]) :: ((rs.map fun k => List.replicate k 32 ++ [124]) ++ [[]])) = List.replicate k 32 ++ 124 :: 10 :: pageC rs
    rw [← h, e]
    show (List.replicate k 32 ++ [124]) ++ 10 :: jn 10 (a :: r) = _
    simp
theorem nl_is : Str.ofString "\n" = ⟨#[10]⟩ := by decide +kernel
theorem split_page (rs : List Nat) : Txt.split (pageR rs) (Str.ofString "\n") = rs.map lineS ++ [⟨#[]⟩] := by
  rw [nl_is]
  refine split_of (by simp) ?_ ?_
  · intro l hl
    rcases List.mem_append.mp hl with hl | hl
    · obtain ⟨k, _, rfl⟩ := List.mem_map.mp hl
      intro h
      rcases List.mem_append.mp h with h | h
      · have := List.eq_of_mem_replicate h; omega
      · have := List.mem_singleton.mp h; omega
    · rw [List.mem_singleton.mp hl]; intro h; cases h
  · have e : (rs.map lineS ++ [(⟨#[]⟩ : Str)]).map (·.cps.toList) = (rs.map fun k => List.replicate k 32 ++ [124]) ++ [[]] := by
      rw [List.map_append, List.map_map]; rfl
    rw [e, page_jn]
    rfl
theorem lens_page (rs : List Nat) : lens ((rs.map lineS ++ [(⟨#[]⟩ : Str)]).take ((rs.map lineS ++ [(⟨#[]⟩ : Str)]).length - 1)) = rs.map fun (k : Nat) => (k : Int) := by
  have e : (rs.map lineS ++ [(⟨#[]⟩ : Str)]).length - 1 = (rs.map lineS).length := by simp
  rw [e, List.take_left]
  unfold lens
  rw [List.map_map]
  refine List.map_congr_left fun k _ => ?_
  show (((List.replicate k 32 ++ [124]).toArray.size : Nat) : Int) - 1 = _
  simp
theorem cnt_blanks (l : List Nat) : ∀ k : Nat, PyProof.Rows.cnt 32 (List.replicate k 32 ++ l) = (k : Int) + PyProof.Rows.cnt 32 l
  | 0 => by simp
  | k + 1 => by
    rw [List.replicate_succ, List.cons_append, PyProof.Rows.cnt_cons, cnt_blanks l k, if_pos rfl]
    omega
theorem cnt_page : ∀ rs : List Nat, PyProof.Rows.cnt 32 (pageC rs) = (rs.sum : Nat)
  | [] => rfl
  | k :: rs => by
    show PyProof.Rows.cnt 32 (List.replicate k 32 ++ 124 :: 10 :: pageC rs) = _
    rw [cnt_blanks, PyProof.Rows.cnt_cons, PyProof.Rows.cnt_cons, cnt_page rs, if_neg (by decide), if_neg (by decide), List.sum_cons]
    omega
theorem count_page (rs : List Nat) : Txt.count (pageR rs) (Str.ofString " ") = (rs.sum : Nat) := by
  have e : Str.ofString " " = ⟨#[32]⟩ := by decide +kernel
  rw [e, count_is]
  exact cnt_page rs
end
section -- C3
set_option maxHeartbeats 4000000
section
variable {prog : Program} {w : World} {A : Around} {E : Value → Shared → Prop} {s : Shared} {h₀ : Heap} {L : Addr} {m : Str → Option Value} {news : List (Addr × Obj)} {Q : Value → Shared → Prop}
theorem words_C3_1 : True := by
  k_with_none
  w_top off
  k_with "m_enterC" => ((
  (have Xᵥ := Base.K (by assumption)); (have Tᵥ := Base.T (by assumption)); revert Tᵥ; revert Xᵥ; k_fill; intro _ _
  k_dflt (refine' enterC ?k1ᵥ ?k2ᵥ ?k3ᵥ ?k4ᵥ ?k5ᵥ ?k6ᵥ ?k7ᵥ ?k8ᵥ ?k9ᵥ ?k10ᵥ ?_; (case k1ᵥ => assumption); (case k2ᵥ => exact Room.depth (by assumption)); (case k3ᵥ => k_is); (case k4ᵥ => k_is); (case k5ᵥ => first | exact BindsTo.of_eq rfl | exact binds_K (by k_in) rfl (by k_is) rfl rfl rfl | fail "m_enter: no rule for these arguments"); (case k6ᵥ => exact rfl); (case k7ᵥ => decide +kernel); (case k8ᵥ => exact rfl); (case k9ᵥ => exact rfl); (case k10ᵥ => exact rfl); k_whole; intro _ _ _ _ _ N'ᵥ Y'ᵥ; k_cells Y'ᵥ; (try simp only [List.cons_append, List.nil_append] at N'ᵥ); (try dsimp only); (try k_fold)))); (try (revert N'ᵥ; intro _)); (try (revert Y'ᵥ; intro _))
  trivial
theorem m_slice3_ints {value slice : Expr} {l : Addr} {vs : List Value} {ns : List Int} {vl vu vk : Value} {lo hi st : Option Int} {ops : List Value} (F : Fr h₀ L s.heap m) (N : News h₀ L s.heap news) (hl : s.heap.IsList l vs.toArray) (pl : IsPart vl lo) (pu : IsPart vu hi) (pk : IsPart vk st) (h0 : st ≠ some 0) (hI : IntsAre vs ns)
    (h : ∀ D ws h', Fr h₀ L h' m → News h₀ L h' ((D, W.listOf ws.toArray 0) :: news) → (∀ p ∈ news, p.1 < D) → IntsAre ws (pickNums ns lo hi st) → Q (.ref D) { s with heap := h' })
    (hs : subscripted slice false (.ref l) (.ref s.heap.objs.size) = operate ops (getItem (.ref l) (.ref s.heap.objs.size))) (ht : ∀ r, letTemporaryGo value (.ref l) r = pure ()) (hz : vs.toArray.size ≤ sizeLine) :
    wpAny (model prog w) A (subscriptTail value slice (.ref l) (.ref s.heap.objs.size)) Q E { s with heap := s.heap.push { cls := .type "slice", data := .fields #[vl, vu, vk] } } := by
  refine slice_list3 F N hl pl pu pk h0 (fun h' F' N' => h _ (slicePick vs.toArray lo hi st).toList h' F' ?_ (fun p hp => Nat.lt_succ_of_lt (Heap.lt_size (N p hp).1)) (hI.pick lo hi st)) hs ht hz
  rw [Array.toArray_toList]
  exact N'
end
noncomputable def srt (ss : List Int) (many k : Int) : Int := if k.fdiv many < ((List.count (-1) (pickNums ss (some (k.fmod many)) none (some many)) : Nat) : Int) then -1 else 1
theorem words_C3_2 : True := by
  k_with "subscriptTail Name Slice ref ref" => ((k_here; (with_reducible show wpAny _ _ (subscriptTail _ (PySem.Expr.Slice _ _ (some _) _) (Value.ref _) (Value.ref _)) _ _ _); k_dflt (refine' m_slice3_ints ?Fᵥ ?Nᵥ ?lᵥ ?pᵥ ?qᵥ ?kᵥ ?oᵥ ?iᵥ ?_ ?sᵥ ?tᵥ ?zᵥ; (case Fᵥ => k_asm); (case Nᵥ => k_asm); (case lᵥ => kmk_list); (case pᵥ => kmk_part); (case qᵥ => kmk_part); (case kᵥ => kmk_part); (case oᵥ => (intro eᵥ; injection eᵥ with eᵥ; omega)); (case iᵥ => l_ints); (case sᵥ => with_unfolding_all rfl); (case tᵥ => kmk_pure); (case zᵥ => kmk_size)); intro _ _ _ _ _ l1ᵥ _; (try k_lt l1ᵥ); (try k_sweep))); (try (revert eᵥ; intro _)); (try (revert l1ᵥ; intro _))
  trivial
theorem fn_sorted (w : World) (mean : ExcName → Option Value) (mg mb : Str → Option Value) (l : Addr) (vs : List Value) (ss : List Int) (many : Int) (tm : Tok) :
   Fn w mean mg mb 10 300 [.ref l, .int many tm] (fun h => h.IsList l vs.toArray ∧ IntsAre vs ss ∧ ss.length = 8 ∧ 2 ≤ many ∧ many ≤ 4) (fun h v h' => ∃ ys, NewL h v h' ys ∧ IntsAre ys ((List.range 8).map fun (k : Nat) => srt ss many (k : Int))) := by
  refine Fn.intro fun dp fr gd un g gs dr tk os Q E r B Pᵢ ret => ?_
  have hl := Pᵢ.1
  have hi := Pᵢ.2.1
  have hn := Pᵢ.2.2.1
  have hp := Pᵢ.2.2.2.1
  have hp2 := Pᵢ.2.2.2.2
  clear Pᵢ
  walk_at "m_enterC"
  k_steps
  (rename IntsAre _ (List.map _ (rangeKs 0 _)) => hI)
  exact ret _ _ _ (Fr.keep (by assumption)) ⟨_, NewL.of (by assumption) (.head _), hI⟩
end
section -- PL0
set_option maxHeartbeats 4000000
/-! the plain law -/
noncomputable def allE : Nat → List (List Int)
  | 0 => [[]]
  | n + 1 => (allE n).map (1 :: ·) ++ (allE n).map (-1 :: ·)
theorem mem_allE : ∀ (n : Nat) (l : List Int), l.length = n → (∀ x ∈ l, x = 1 ∨ x = -1) → l ∈ allE n := by
  intro n
  induction n with
  | zero => exact len0 fun _ => .head _
  | succ n ih =>
    refine lenS fun x l h hx => ?_
    have hl := ih l h fun y hy => hx y (.tail _ hy)
    rcases hx x (.head _) with rfl | rfl
    · exact List.mem_append_left _ (List.mem_map_of_mem hl)
    · exact List.mem_append_right _ (List.mem_map_of_mem hl)
theorem of_allE : ∀ (n : Nat) (l : List Int), l ∈ allE n → l.length = n ∧ ∀ x ∈ l, x = 1 ∨ x = -1
  | 0, l, h => by
    rcases List.mem_cons.mp h with rfl | h
    · exact ⟨rfl, fun _ h => nomatch h⟩
    · cases h
  | n + 1, l, h => by
    rcases List.mem_append.mp h with h | h
    · obtain ⟨l', h', rfl⟩ := List.mem_map.mp h
      obtain ⟨h1, h2⟩ := of_allE n l' h'
      exact ⟨by simp [h1], fun x hx => (List.mem_cons.mp hx).elim .inl (h2 x)⟩
    · obtain ⟨l', h', rfl⟩ := List.mem_map.mp h
      obtain ⟨h1, h2⟩ := of_allE n l' h'
      exact ⟨by simp [h1], fun x hx => (List.mem_cons.mp hx).elim .inr (h2 x)⟩
/-- a row of the signs -/
noncomputable def rowS (m : Nat) {α : Type} (ts : List α) (i : Nat) : List α := (ts.drop (m * i)).take m
noncomputable def rowsN (m : Nat) : Nat := (8 + m - 1) / m
/-- the signs as truth values: true where a cell closes -/
noncomputable def ng (x : Int) : Bool := match x with
  | .negSucc _ => true
  | .ofNat _ => false
noncomputable def sg (b : Bool) : Int := match b with
  | true => -1
  | false => 1
noncomputable def pr (a b : Bool) : Nat := match a, b with
  | false, true => 1
  | _, _ => 0
/-- pairs out of order, in all columns -/
noncomputable def invB : Nat → List Bool → Nat
  | 2, [a, b, c, d, e, f, g, h] => (pr a c + pr a e + pr a g + pr c e + pr c g + pr e g) + (pr b d + pr b f + pr b h + pr d f + pr d h + pr f h)
  | 3, [a, b, c, d, e, f, g, h] => (pr a d + pr a g + pr d g) + (pr b e + pr b h + pr e h) + pr c f
  | 4, [a, b, c, d, e, f, g, h] => pr a e + pr b f + pr c g + pr d h
  | _, _ => 0
noncomputable def invs (m : Nat) (ts : List Int) : Nat := invB m (ts.map ng)
noncomputable def srtL (m : Nat) (ss : List Int) : List Int := (List.range 8).map fun (k : Nat) => srt ss m (k : Int)
end
section -- Y2
theorem words_Y2_0 : True := by
  k_with_none
  w_top off
  trivial
set_option maxHeartbeats 400000
theorem blank_is : Str.ofString " " = ⟨#[32]⟩ := by decide +kernel
theorem row_flat (cur : List Str) : (rowT cur).cps.toList = cur.flatMap fun c => 32 :: c.cps.toList := by
  unfold rowT catS
  rw [blank_is]
  induction cur with
  | nil => rfl
  | cons c r ih =>
    rw [List.map_cons, List.flatMap_cons, List.flatMap_cons, ← ih, append_cat]
    simp
theorem cell8 {c : Str} (h : c.length = 8) : c.cps.toList.length = 8 := by
  rw [Array.length_toList]; exact h
theorem flat_len {cur : List Str} (h : ∀ c ∈ cur, c.length = 8) : (cur.flatMap fun c => 32 :: c.cps.toList).length = 9 * cur.length := by
  induction cur with
  | nil => rfl
  | cons c r ih =>
    rw [List.flatMap_cons, List.length_append, ih fun d hd => h d (.tail _ hd), List.length_cons, List.length_cons, cell8 (h c (.head _))]
    omega
theorem row_len {cur : List Str} (h : ∀ c ∈ cur, c.length = 8) : (rowT cur).length = 9 * cur.length := by
  rw [← flat_len h, ← row_flat, Array.length_toList]
  rfl
theorem flat_cut : ∀ (cur : List Str) (i : Nat) (c : Str), (∀ c ∈ cur, c.length = 8) → cur[i]? = some c → ((cur.flatMap fun c => 32 :: c.cps.toList).drop (9 * i + 1)).take 8 = c.cps.toList
  | [], _, _, _, e => by cases e
  | d :: r, 0, c, h, e => by
    cases e
    rw [List.flatMap_cons]
    show ((d.cps.toList ++ _).take 8) = _
    rw [List.take_append_of_le_length (by rw [cell8 (h d (.head _))]; exact Nat.le_refl _), List.take_of_length_le (by rw [cell8 (h d (.head _))]; exact Nat.le_refl _)]
  | d :: r, i + 1, c, h, e => by
    rw [List.flatMap_cons]
    have hl : (32 :: d.cps.toList).length = 9 := by rw [List.length_cons, cell8 (h d (.head _))]
    have e2 : 9 * (i + 1) + 1 = (32 :: d.cps.toList).length + (9 * i + 1) := by rw [hl]; omega
    rw [e2, List.drop_append]
    have hz : List.drop ((32 :: d.cps.toList).length + (9 * i + 1)) (32 :: d.cps.toList) = [] := List.drop_eq_nil_of_le (by omega)
    rw [hz, List.nil_append, Nat.add_sub_cancel_left]
    exact flat_cut r i c (fun d hd => h d (.tail _ hd)) e
theorem cut_row {cur : List Str} (h : ∀ c ∈ cur, c.length = 8) : cutR (rowT cur) = cur := by
  unfold cutR
  have hn : (rowT cur).length / 9 = cur.length := by rw [row_len h]; omega
  rw [hn]
  refine List.ext_getElem (by simp) fun i h1 h2 => ?_
  rw [List.getElem_map, List.getElem_range]
  unfold cutAt
  have e := eq_of_beq (slice_closes (x := rowT cur) (i := 9 * (i : Int) + 1) (j := 9 * (i : Int) + 9) ⟨by omega, by omega, by rw [row_flat, flat_len h]; omega⟩)
  rw [e, row_flat]
  have e2 : (9 * (i : Int) + 1).toNat = 9 * i + 1 := by omega
  have e3 : (9 * (i : Int) + 9 - (9 * (i : Int) + 1)).toNat = 8 := by omega
  rw [e2, e3, flat_cut cur i cur[i] h (List.getElem?_eq_getElem h2)]
theorem cf_fold : cellsL.all (fun x => x.cps.toList.contains 34 && !x.cps.toList.contains 10 && PyData.strOk x && x.length == 8) = true := by decide +kernel
structure CellF (x : Str) : Prop where
  q : 34 ∈ x.cps.toList
  nl : 10 ∉ x.cps.toList
  ok : PyData.strOk x = true
  len : x.length = 8
theorem cell_f {x : Str} (h : x ∈ cellsL) : CellF x := by
  have := mem_all cf_fold h
  simp only [Bool.and_eq_true, Bool.not_eq_true', beq_iff_eq] at this
  obtain ⟨⟨⟨a, b⟩, c⟩, d⟩ := this
  exact ⟨List.contains_iff_mem.mp a, (fun hm => by rw [List.contains_iff_mem.mpr hm] at b; cases b), c, d⟩
theorem row_space {cur : List Str} {c : Str} (hc : c ∈ cellsL) (hm : c ∈ cur) : Txt.isspace (rowT cur) = false := by
  unfold Txt.isspace
  rw [Bool.and_eq_false_iff]
  refine .inr (Bool.eq_false_iff.mpr fun hall => ?_)
  have hin : 34 ∈ (rowT cur).cps := by
    rw [Array.mem_def, row_flat]
    exact List.mem_flatMap.mpr ⟨c, hm, .tail _ (cell_f hc).q⟩
  have := (Array.all_eq_true_iff_forall_mem.mp hall) 34 hin
  revert this
  decide +kernel
theorem row_nl {cur : List Str} (h : ∀ c ∈ cur, c ∈ cellsL) : 10 ∉ (rowT cur).cps.toList := by
  rw [row_flat]
  intro hm
  obtain ⟨c, hc, hm⟩ := List.mem_flatMap.mp hm
  rcases List.mem_cons.mp hm with e | hm
  · cases e
  · exact (cell_f (h c hc)).nl hm
theorem jn_len (c : Nat) : ∀ ls : List (List Nat), (jn c ls).length ≤ (ls.map (·.length)).sum + ls.length
  | [] => Nat.zero_le _
  | [a] => by simp [jn]
  | a :: b :: r => by
    have := jn_len c (b :: r)
    unfold jn
    simp only [List.length_append, List.length_cons, List.map_cons, List.sum_cons] at this ⊢
    omega
theorem sum_le {k : Nat} : ∀ {ls : List Nat}, (∀ a ∈ ls, a ≤ k) → ls.sum ≤ k * ls.length
  | [], _ => Nat.zero_le _
  | a :: r, h => by
    have h1 := h a (.head _)
    have h2 := sum_le fun b hb => h b (.tail _ hb)
    rw [List.sum_cons, List.length_cons, Nat.mul_add]
    omega
theorem nl_join (rs : List Str) : (Txt.join (Str.ofString "\n") rs).cps.toList = jn 10 (rs.map (·.cps.toList)) := by
  show (Builtin.Str.glued _ _).cps.toList = _
  rw [StrLaws.glued_eq_join, nl_is]
  exact join_codes 10 rs
/-- the lines of the eight cells -/
noncomputable def rows8 (m : Nat) (xs : List Str) : List Str := (List.range (rowsN m)).map fun i => rowT (rowS m xs i)
theorem rowS_mem {m i : Nat} {xs : List Str} {c : Str} (h : c ∈ rowS m xs i) : c ∈ xs := List.mem_of_mem_drop (List.mem_of_mem_take h)
theorem rows8_n {m : Nat} (hm : m = 2 ∨ m = 3 ∨ m = 4) : rowsN m ≤ 4 ∧ 1 ≤ rowsN m := by rcases hm with rfl | rfl | rfl <;> decide
theorem rows8_len {m : Nat} (hm : m = 2 ∨ m = 3 ∨ m = 4) {xs : List Str} (hx : ∀ x ∈ xs, x ∈ cellsL) (r : Str) (hr : r ∈ rows8 m xs) : r.length ≤ 36 := by
  obtain ⟨i, _, rfl⟩ := List.mem_map.mp hr
  rw [row_len fun c hc => (cell_f (hx c (rowS_mem hc))).len]
  have : (rowS m xs i).length ≤ m := List.length_take_le _ _
  omega
theorem rows8_sum {m : Nat} (hm : m = 2 ∨ m = 3 ∨ m = 4) {xs : List Str} (hx : ∀ x ∈ xs, x ∈ cellsL) : ((rows8 m xs).map (·.length)).sum + (rows8 m xs).length ≤ 500 := by
  have h1 : ((rows8 m xs).map (·.length)).sum ≤ 36 * ((rows8 m xs).map (·.length)).length := sum_le fun a ha => by
    obtain ⟨r, hr, rfl⟩ := List.mem_map.mp ha
    exact rows8_len hm hx r hr
  have h2 := (rows8_n hm).1
  have h3 : (rows8 m xs).length = rowsN m := by simp [rows8]
  rw [List.length_map, h3] at h1
  rw [h3]
  omega
theorem rows8_join {m : Nat} (hm : m = 2 ∨ m = 3 ∨ m = 4) {xs : List Str} (hx : ∀ x ∈ xs, x ∈ cellsL) : (Txt.join (Str.ofString "\n") (rows8 m xs)).length ≤ 1000 := by
  have h1 := rows8_sum hm hx
  have h2 := jn_len 10 ((rows8 m xs).map (·.cps.toList))
  rw [← nl_join, Array.length_toList, List.length_map, List.map_map] at h2
  have h3 : (rows8 m xs).map (List.length ∘ fun x => x.cps.toList) = (rows8 m xs).map (·.length) := List.map_congr_left fun r _ => Array.length_toList
  rw [h3] at h2
  show (Txt.join (Str.ofString "\n") (rows8 m xs)).cps.size ≤ _
  omega
theorem rows8_split {m : Nat} (hm : m = 2 ∨ m = 3 ∨ m = 4) {xs : List Str} (hx : ∀ x ∈ xs, x ∈ cellsL) : Txt.split (Txt.join (Str.ofString "\n") (rows8 m xs)) (Str.ofString "\n") = rows8 m xs := by
  have h := nl_join (rows8 m xs)
  rw [nl_is] at h ⊢
  refine split_of (fun e => ?_) (fun r hr => ?_) h.symm
  · have h3 : (rows8 m xs).length = rowsN m := by simp [rows8]
    rw [e] at h3
    have := (rows8_n hm).2
    rw [← h3] at this
    cases this
  · obtain ⟨i, _, rfl⟩ := List.mem_map.mp hr
    exact row_nl fun c hc => hx c (rowS_mem hc)
end
section -- Y4
set_option maxHeartbeats 400000
theorem fold_rows {m : Nat} (hm : m = 2 ∨ m = 3 ∨ m = 4) {xs : List Str} (h : xs.length = 8) : foldRows m xs = rows8 m xs ∧ ∃ cur c, (xs.foldl (stepF m) ([], [])).2 = cur ++ [c] ∧ c ∈ xs := by
  refine list8 (P := fun xs => foldRows m xs = rows8 m xs ∧ ∃ cur c, (xs.foldl (stepF m) ([], [])).2 = cur ++ [c] ∧ c ∈ xs) (fun x0 x1 x2 x3 x4 x5 x6 x7 => ?_) xs h
  ·
    rcases hm with rfl | rfl | rfl
    · have e : [x0, x1, x2, x3, x4, x5, x6, x7].foldl (stepF 2) ([], []) = ([rowT [x0, x1], rowT [x2, x3], rowT [x4, x5]], [x6, x7]) := by simp [stepF]
      unfold foldRows
      rw [e]
      exact ⟨by simp [rows8, rowsN, rowS, List.range_succ], [x6], x7, rfl, by simp⟩
    · have e : [x0, x1, x2, x3, x4, x5, x6, x7].foldl (stepF 3) ([], []) = ([rowT [x0, x1, x2], rowT [x3, x4, x5]], [x6, x7]) := by simp [stepF]
      unfold foldRows
      rw [e]
      exact ⟨by simp [rows8, rowsN, rowS, List.range_succ], [x6], x7, rfl, by simp⟩
    · have e : [x0, x1, x2, x3, x4, x5, x6, x7].foldl (stepF 4) ([], []) = ([rowT [x0, x1, x2, x3]], [x4, x5, x6, x7]) := by simp [stepF]
      unfold foldRows
      rw [e]
      exact ⟨by simp [rows8, rowsN, rowS, List.range_succ], [x4, x5, x6], x7, rfl, by simp⟩
/-- what the fold leaves in the ledger -/
structure Folded (m : Nat) (xs : List Str) (D : Addr) (gs : List (Addr × List Value)) (more more' : List (Addr × Obj)) : Prop where
  n : gs.length = rowsN m
  top : (D, LCg.lst (gs.map fun g => Value.ref g.1)) ∈ more'
  row : ∀ g ∈ gs, (g.1, LCg.lst g.2) ∈ more'
  str : ∀ (j : Nat) (g : Addr × List Value), gs[j]? = some g → StrsAre g.2 (rowS m xs j)
  nd : (gs.map (·.1)).Nodup
  ne : ∀ g ∈ gs, g.1 ≠ D
  old : ∀ q ∈ more, q.1 ≠ D ∧ ∀ g ∈ gs, q.1 ≠ g.1
  tabs : Tabs more'
theorem fn_fold8 (w : World) (mean : ExcName → Option Value) (mg mb : Str → Option Value) (l : Addr) (cs : List Value) (xs : List Str) (m left : Nat) (tm tl : Tok) (hcs : StrsAre cs xs) (hn : xs.length = 8) (hx : ∀ x ∈ xs, x ∈ cellsL) (hm : m = 2 ∨ m = 3 ∨ m = 4) (hleft : left ≤ 8) :
   FnA os₀ w mean mg mb 30 256 [.ref l, .int (m : Int) tm, .int (left : Int) tl] [183, 190] (fun more => Tabs more ∧ ∃ k, (l, srcO cs.toArray k) ∈ more) (fun v more more' => ∃ D gs, v = .ref D ∧ Folded m xs D gs more more') := by
  obtain ⟨e, cur, c, hcur, hc⟩ := fold_rows hm hn
  have hcc := hx c hc
  have h8 : ∀ x ∈ xs, x.length = 8 := fun x h => (cell_f (hx x h)).len
  have hr36 := rows8_len hm hx
  have h := fn_fold (os₀ := os₀) w mean mg mb [183, 190] (fun a h => h) l cs xs m left tm tl hcs h8 (by omega) (by omega) (by omega) hleft cur c hcur (cell_f hcc).ok (row_space hcc (by simp)) (by rw [e]; exact rows8_sum hm hx) (by rw [e]; exact rows8_split hm hx) (by rw [e]; exact fun r hr => Nat.le_trans (hr36 r hr) (by decide)) (by rw [e]; exact rows8_join hm hx)
  intro A s Q E gb more rm B hk hzz ha hbr tch P ret
  refine h A s Q E gb more rm B hk hzz ha hbr tch P fun v s' more' W hb R => ret v s' more' W hb ?_
  obtain ⟨D, gs, rfl, h1, h2, h3, h4, h5, h6, h7, h8'⟩ := R
  rw [e] at h1 h4
  refine ⟨D, gs, rfl, ⟨by rw [h1]; simp [rows8], h2, h3, fun j g hj => ?_, h5, h6, h7, h8'⟩⟩
  obtain ⟨r, hr, hS⟩ := h4 j g hj
  unfold rows8 at hr
  rw [List.getElem?_map] at hr
  cases hj2 : (List.range (rowsN m))[j]? with
  | none => rw [hj2] at hr; cases hr
  | some i =>
    rw [hj2] at hr
    obtain ⟨hlt, hi⟩ := List.getElem?_eq_some_iff.mp hj2
    rw [List.getElem_range] at hi
    subst hi
    obtain rfl := (Option.some.inj hr).symm
    rw [cut_row fun c hc => h8 c (rowS_mem hc)] at hS
    exact hS
end
section -- E2
set_option maxHeartbeats 600000
theorem words_E2_1 : True := by
  k_with_none
  w_top off
  k_with "g_enterC" => ((
  (have Xᵥ := Base.K (by assumption)); (have Tᵥ := Base.T (by assumption)); revert Tᵥ; revert Xᵥ; k_fill; intro _ _
  k_dflt (refine' enterCG ?k1ᵥ ?k2ᵥ ?k3ᵥ ?k4ᵥ ?k5ᵥ ?k6ᵥ ?k7ᵥ ?k8ᵥ ?k9ᵥ ?k10ᵥ ?_; (case k1ᵥ => assumption); (case k2ᵥ => exact Room.depth (by assumption)); (case k3ᵥ => k_is); (case k4ᵥ => k_is); (case k5ᵥ => first | exact BindsTo.of_eq rfl | exact binds_K (by k_in) rfl (by k_is) rfl rfl rfl | fail "m_enter: no rule for these arguments"); (case k6ᵥ => exact rfl); (case k7ᵥ => decide +kernel); (case k8ᵥ => exact rfl); (case k9ᵥ => exact rfl); (case k10ᵥ => exact rfl); k_whole; intro _ _ _ _ _ N'ᵥ Y'ᵥ; k_cells Y'ᵥ; (try simp only [List.cons_append, List.nil_append] at N'ᵥ); (try dsimp only); (try k_fold)))); (try (revert N'ᵥ; intro _)); (try (revert Y'ᵥ; intro _))
  trivial
theorem m_join {prog : Program} {w : World} {A : Around} {E : Value → Shared → Prop} {s : Shared} {Q : Value → Shared → Prop} {h₀ : Heap} {L : Addr} {m : Str → Option Value} {x : Str} {t : Tok} {D : Addr} {vs : List Value} {ys : List Str} (F : Fr h₀ L s.heap m) (hl : h₀.IsList D vs.toArray) (hi : StrsAre vs ys) (hsep : x.length ≤ 16) (hw : (ys.map (·.length)).sum + ys.length ≤ 1048576)
    (h : ∀ t' k, Q (.str (Txt.join x ys) t') { s with toks := k }) : wpAny (model prog w) A (call (.builtin "str.join") [.str x t, .ref D]) Q E s :=
  join_listW (hl.at fun o e => F.keep _ o e) (by simpa using hi) hsep hw h
theorem rng8 {k : Int} (h : k < 0 + (((8 : Int) - 0).toNat : Int)) : k < 8 := h
noncomputable def GoodB (b : Array UInt8) : Prop := b.size ≤ 100 ∧ okB b = true
theorem words_E2_2 : True := by
  k_with "call builtin:str.join" => ((refine m_join (by k_asm) (by assumption) (by assumption) (by decide) (by assumption) ?_; intro _ _))
  k_with "getMethod str" => ((with_reducible refine m_getenc ?_))
  k_with "call builtin:str.encode" => ((refine m_enc (by assumption) (by assumption) (by assumption) ?_; intro _ _))
  k_with "fn_room" => ((refine roomUp (by assumption) rfl ?_ ?_ <;> ((try dsimp only [Around.deeper, Around.in1, Around.mark]); first | exact Nat.add_le_add_left (by decide) _ | exact upLe (by decide) | exact upLe2 (by decide) | omega)))
  k_with "subscriptTail Name Slice bytes ref" => (((with_reducible rename Fr _ _ _ _ => F'ᵥ); (with_reducible rename News _ _ _ _ => N'ᵥ); (refine KBc.slice_K (s := ⟨_, _, _, _, _⟩) F'ᵥ N'ᵥ rfl (by constructor) (by constructor) (by rw [KBw.ints_length]; omega) ?_); intro _ _ _ F'ᵥ N'ᵥ kbcKᵥ; clear kbcKᵥ)); (try (revert F'ᵥ; intro _)); (try (revert N'ᵥ; intro _)); (try (revert kbcKᵥ; intro _))
  k_with "call ref" => (((with_reducible show wpAny _ _ (call (Value.ref 51) _) _ _ _); ((rename (∀ _ _, GoodB _ → Fn _ _ _ _ _ _ _ _ _) => hfDptᵥ); (rename (∀ _, 0 ≤ _ → _ < 8 → GoodB _) => hgBᵥ); refine callFn (hfDptᵥ _ _ (hgBᵥ _ (by first | assumption | omega) (by first | exact rng8 (by assumption) | omega))) (by walk_at "fn_room") (by assumption) (by k_asm) (by k_asm) trivial ?_); intro _ _ _ R0ᵥᵥ _ _ G0ᵥ; clear G0ᵥ; obtain ⟨_, R0ᵥᵥ⟩ := R0ᵥᵥ; subst R0ᵥᵥ; (try k_sweep))); (try (revert G0ᵥ; intro _))
  trivial
theorem fn_turned (w : World) (mean : ExcName → Option Value) (mg mb : Str → Option Value) (l : Addr) (cs : List Value) (xs : List Str) (hw : (xs.map (·.length)).sum + xs.length ≤ 1048576) (j2 : 2 ≤ (Txt.join (Str.ofString "") xs).cps.size) (j3 : (Txt.join (Str.ofString "") xs).cps.size ≤ 1000) (ja : asc (Txt.join (Str.ofString "") xs) = true) (D : Array UInt8 → Int) (hD : ∀ b tb, GoodB b → Fn w mean mg mb 10 51 [.bytes b tb] (fun _ => True) (fun _ v _ => ∃ t, v = .int (D b) t)) (hgd : ∀ k : Int, 0 ≤ k → k < 8 → GoodB (KBy.picked (swp (Array.replicate 64 0) (enc (Txt.join (Str.ofString "") xs)) 0 64 64) (some (8 * k)) (some (8 * k + 8)))) (jb : ((enc (Txt.join (Str.ofString "") xs)).size : Int) = 64) :
   FnG w mean mg mb 30 271 [.ref l] (fun h => h.IsList l cs.toArray ∧ StrsAre cs xs ∧ xs.length = 8) (fun h v h' => ∃ ys, NewL h v h' ys ∧ IntsAre ys ((List.range 8).map fun (k : Nat) => D (KBy.picked (swp (Array.replicate 64 0) (enc (Txt.join (Str.ofString "") xs)) 0 64 64) (some (8 * (k : Int))) (some (8 * (k : Int) + 8))))) := by
  refine FnG.intro fun dp fr gd un g₀ gs dr tk os Q E r B Pᵢ ret => ?_
  have pl := Pᵢ.1
  have ps := Pᵢ.2.1
  have pn := Pᵢ.2.2
  clear Pᵢ
  walk_at "g_enterC"
  refine gExecsCons (gAssignName ?_ (by rfl))
  refine gCallName ?_
  k_steps
  refine gCallWithK B (by k_is) (by rfl) (gArgs rfl (gAny ?_))
  k_steps
  refine gArg rfl (gAny ?_)
  k_steps
  refine gSplicedNil ⟨Fr.keep (by assumption), ?_⟩
  refine callFnG (fn_bs64 w mean mg mb _ _ _ jb) (roomUp r rfl (by dsimp only [Around.deeper]; exact upLe (by decide)) (by dsimp only [Around.deeper]; exact upLe (by decide))) B (by k_asm) (by k_asm) trivial ?_
  rintro v' h' tk' ⟨t', rfl⟩ F' N' -
  k_steps
  refine gAny ?_
  (try dsimp only)
  have jr : (swp (Array.replicate 64 0) (enc (Txt.join (Str.ofString "") xs)) 0 64 64).size = 64 := by rw [swp_size]; rfl
  generalize swp (Array.replicate 64 0) (enc (Txt.join (Str.ofString "") xs)) 0 64 64 = row at *
  k_steps
  (rename IntsAre _ (List.map _ (rangeKs 0 _)) => hI)
  exact ret _ _ _ (Fr.keep (by assumption)) ⟨_, NewL.of (by assumption) (.head _), hI⟩
end
section -- Y3
set_option maxHeartbeats 400000
theorem turned64 (a00 a01 a02 a03 a04 a05 a06 a07 a10 a11 a12 a13 a14 a15 a16 a17 a20 a21 a22 a23 a24 a25 a26 a27 a30 a31 a32 a33 a34 a35 a36 a37 a40 a41 a42 a43 a44 a45 a46 a47 a50 a51 a52 a53 a54 a55 a56 a57 a60 a61 a62 a63 a64 a65 a66 a67 a70 a71 a72 a73 a74 a75 a76 a77 : Nat) : ∀ k : Nat, k < 8 → KBy.picked (swp (Array.replicate 64 0) (enc (Txt.join (Str.ofString "") [⟨#[a00, a01, a02, a03, a04, a05, a06, a07]⟩, ⟨#[a10, a11, a12, a13, a14, a15, a16, a17]⟩, ⟨#[a20, a21, a22, a23, a24, a25, a26, a27]⟩, ⟨#[a30, a31, a32, a33, a34, a35, a36, a37]⟩, ⟨#[a40, a41, a42, a43, a44, a45, a46, a47]⟩, ⟨#[a50, a51, a52, a53, a54, a55, a56, a57]⟩, ⟨#[a60, a61, a62, a63, a64, a65, a66, a67]⟩, ⟨#[a70, a71, a72, a73, a74, a75, a76, a77]⟩])) 0 64 64) (some (8 * (k : Int))) (some (8 * (k : Int) + 8)) = enc (rvs ([⟨#[a00, a01, a02, a03, a04, a05, a06, a07]⟩, ⟨#[a10, a11, a12, a13, a14, a15, a16, a17]⟩, ⟨#[a20, a21, a22, a23, a24, a25, a26, a27]⟩, ⟨#[a30, a31, a32, a33, a34, a35, a36, a37]⟩, ⟨#[a40, a41, a42, a43, a44, a45, a46, a47]⟩, ⟨#[a50, a51, a52, a53, a54, a55, a56, a57]⟩, ⟨#[a60, a61, a62, a63, a64, a65, a66, a67]⟩, ⟨#[a70, a71, a72, a73, a74, a75, a76, a77]⟩].getD (7 - k) ⟨#[]⟩))
  | 0, _ => by kernel_rfl
  | 1, _ => by kernel_rfl
  | 2, _ => by kernel_rfl
  | 3, _ => by kernel_rfl
  | 4, _ => by kernel_rfl
  | 5, _ => by kernel_rfl
  | 6, _ => by kernel_rfl
  | 7, _ => by kernel_rfl
  | _ + 8, h => absurd h (by omega)
theorem eight {x : Str} (h : x.cps.size = 8) : ∃ a b c d e f g i, x = ⟨#[a, b, c, d, e, f, g, i]⟩ := by
  obtain ⟨⟨l⟩⟩ := x
  exact list8 (P := fun l => ∃ a b c d e f g i, (⟨⟨l⟩⟩ : Str) = ⟨#[a, b, c, d, e, f, g, i]⟩) (fun a b c d e f g i => ⟨a, b, c, d, e, f, g, i, rfl⟩) l h
@[elab_as_elim] theorem cellE {P : Str → Prop} (x : Str) (h : Cell x) (k : ∀ a b c d e f g i, asc ⟨#[a, b, c, d, e, f, g, i]⟩ = true → P ⟨#[a, b, c, d, e, f, g, i]⟩) : P x := by
  obtain ⟨a, b, c, d, e, f, g, i, rfl⟩ := eight h.sz
  exact k a b c d e f g i h.as
theorem turned_all {xs : List Str} (hn : xs.length = 8) (hx : ∀ x ∈ xs, x ∈ cellsL) : (∀ k : Nat, k < 8 → KBy.picked (swp (Array.replicate 64 0) (enc (Txt.join (Str.ofString "") xs)) 0 64 64) (some (8 * (k : Int))) (some (8 * (k : Int) + 8)) = enc (rvs (xs.getD (7 - k) ⟨#[]⟩))) ∧
    asc (Txt.join (Str.ofString "") xs) = true ∧ (Txt.join (Str.ofString "") xs).cps.size = 64 ∧ (xs.map (·.length)).sum = 64 := by
  refine list8 (P := fun xs => (∀ x ∈ xs, x ∈ cellsL) → ((∀ k : Nat, k < 8 → KBy.picked (swp (Array.replicate 64 0) (enc (Txt.join (Str.ofString "") xs)) 0 64 64) (some (8 * (k : Int))) (some (8 * (k : Int) + 8)) = enc (rvs (xs.getD (7 - k) ⟨#[]⟩))) ∧
    asc (Txt.join (Str.ofString "") xs) = true ∧ (Txt.join (Str.ofString "") xs).cps.size = 64 ∧ (xs.map (·.length)).sum = 64)) (fun x0 x1 x2 x3 x4 x5 x6 x7 hx => ?_) xs hn hx
  ·
    have h0 := cell_of (hx x0 (by simp)); have h1 := cell_of (hx x1 (by simp)); have h2 := cell_of (hx x2 (by simp)); have h3 := cell_of (hx x3 (by simp))
    have h4 := cell_of (hx x4 (by simp)); have h5 := cell_of (hx x5 (by simp)); have h6 := cell_of (hx x6 (by simp)); have h7 := cell_of (hx x7 (by simp))
    clear hx
    refine cellE x0 h0 fun _ _ _ _ _ _ _ _ a0 => ?_
    clear h0
    refine cellE x1 h1 fun _ _ _ _ _ _ _ _ a1 => ?_
    clear h1
    refine cellE x2 h2 fun _ _ _ _ _ _ _ _ a2 => ?_
    clear h2
    refine cellE x3 h3 fun _ _ _ _ _ _ _ _ a3 => ?_
    clear h3
    refine cellE x4 h4 fun _ _ _ _ _ _ _ _ a4 => ?_
    clear h4
    refine cellE x5 h5 fun _ _ _ _ _ _ _ _ a5 => ?_
    clear h5
    refine cellE x6 h6 fun _ _ _ _ _ _ _ _ a6 => ?_
    clear h6
    refine cellE x7 h7 fun _ _ _ _ _ _ _ _ a7 => ?_
    clear h7
    refine ⟨turned64 _ _ _ _ _ _ _ _ _ _ _ _ _ _ _ _ _ _ _ _ _ _ _ _ _ _ _ _ _ _ _ _ _ _ _ _ _ _ _ _ _ _ _ _ _ _ _ _ _ _ _ _ _ _ _ _ _ _ _ _ _ _ _ _, ?_, by kernel_rfl, by kernel_rfl⟩
    rw [join_cat]
    unfold asc catS at *
    simp only [List.flatMap_cons, List.flatMap_nil, List.append_nil, List.all_append, Bool.and_eq_true]
    exact ⟨a0, a1, a2, a3, a4, a5, a6, a7⟩
/-- what the row does, read from its end -/
noncomputable def turnS (xs : List Str) : List Int := (xs.map fun x => - dpt x).reverse
theorem fn_turned8 (w : World) (mean : ExcName → Option Value) (mg mb : Str → Option Value) (l : Addr) (cs : List Value) (xs : List Str) (hn : xs.length = 8) (hx : ∀ x ∈ xs, x ∈ cellsL) :
   FnG w mean mg mb 30 271 [.ref l] (fun h => h.IsList l cs.toArray ∧ StrsAre cs xs) (fun h v h' => ∃ ys, NewL h v h' ys ∧ IntsAre ys (turnS xs)) := by
  obtain ⟨t1, t2, t3, t4⟩ := turned_all hn hx
  have hc : ∀ k, k < 8 → xs.getD (7 - k) ⟨#[]⟩ ∈ cellsL := fun k hk => by
    rw [List.getD_eq_getElem?_getD, List.getElem?_eq_getElem (by omega)]
    exact hx _ (List.getElem_mem _)
  have hg : ∀ k : Int, 0 ≤ k → k < 8 → GoodB (KBy.picked (swp (Array.replicate 64 0) (enc (Txt.join (Str.ofString "") xs)) 0 64 64) (some (8 * k)) (some (8 * k + 8))) := fun k h0 h1 => by
    obtain ⟨n, rfl⟩ := Int.eq_ofNat_of_zero_le h0
    have hn8 : n < 8 := by omega
    rw [t1 n hn8]
    have := cell_of (rvs_mem (hc n hn8)).1
    exact ⟨by rw [this.esz]; decide, this.ok⟩
  have h := fn_turned w mean mg mb l cs xs (by rw [t4, hn]; decide) (by rw [t3]; decide) (by rw [t3]; decide) t2 dep (fun b tb hb => fn_dep w mean mg mb b tb hb.1 hb.2) hg (by simp [enc, t3])
  have e : ((List.range 8).map fun (k : Nat) => dep (KBy.picked (swp (Array.replicate 64 0) (enc (Txt.join (Str.ofString "") xs)) 0 64 64) (some (8 * (k : Int))) (some (8 * (k : Int) + 8)))) = turnS xs := by
    unfold turnS
    refine List.ext_getElem (by simp [hn]) fun i h1 h2 => ?_
    have hi : i < 8 := by simpa using h1
    rw [List.getElem_map, List.getElem_range, t1 i hi, List.getElem_reverse, List.getElem_map]
    show dpt (rvs _) = _
    rw [(dpt_of (hc i hi)).2, List.getD_eq_getElem?_getD, List.getElem?_eq_getElem (by omega)]
    simp only [List.length_map, hn, Option.getD_some]
  rw [e] at h
  exact fun A s Q E r B ⟨p1, p2⟩ ret => h A s Q E r B ⟨p1, p2, hn⟩ ret
end
section -- C2
set_option maxHeartbeats 4000000
noncomputable def sgn (d : Int) : Int := if decide ((d.fdiv 2).fmod 4 < 2) = (d.fmod 2 == 0) then 1 else -1
theorem words_C2_1 : True := by
  k_with_none
  w_top off
  k_with "m_enterC" => ((
  (have Xᵥ := Base.K (by assumption)); (have Tᵥ := Base.T (by assumption)); revert Tᵥ; revert Xᵥ; k_fill; intro _ _
  k_dflt (refine' enterC ?k1ᵥ ?k2ᵥ ?k3ᵥ ?k4ᵥ ?k5ᵥ ?k6ᵥ ?k7ᵥ ?k8ᵥ ?k9ᵥ ?k10ᵥ ?_; (case k1ᵥ => assumption); (case k2ᵥ => exact Room.depth (by assumption)); (case k3ᵥ => k_is); (case k4ᵥ => k_is); (case k5ᵥ => first | exact BindsTo.of_eq rfl | exact binds_K (by k_in) rfl (by k_is) rfl rfl rfl | fail "m_enter: no rule for these arguments"); (case k6ᵥ => exact rfl); (case k7ᵥ => decide +kernel); (case k8ᵥ => exact rfl); (case k9ᵥ => exact rfl); (case k10ᵥ => exact rfl); k_whole; intro _ _ _ _ _ N'ᵥ Y'ᵥ; k_cells Y'ᵥ; (try simp only [List.cons_append, List.nil_append] at N'ᵥ); (try dsimp only); (try k_fold)))); (try (revert N'ᵥ; intro _)); (try (revert Y'ᵥ; intro _))
  k_with "eval ListComp" => ((refine unstop ?_))
  k_with "CompSrc" => ((refine unstop ?_))
  trivial
theorem fn_signs (w : World) (mean : ExcName → Option Value) (mg mb : Str → Option Value) (l : Addr) (vs : List Value) (ds : List Int) :
   Fn w mean mg mb 10 251 [.ref l] (fun h => h.IsList l vs.toArray ∧ IntsAre vs ds ∧ ds.length = 9 ∧ ∀ d ∈ ds, 0 ≤ d) (fun h v h' => ∃ ys, NewL h v h' ys ∧ IntsAre ys ((List.range 8).map fun k => sgn (ds.getD k 0))) := by
  refine Fn.intro fun dp fr gd un g gs dr tk os Q E r B Pᵢ ret => ?_
  have hl := Pᵢ.1
  have hi := Pᵢ.2.1
  have hn := Pᵢ.2.2.1
  have hp := Pᵢ.2.2.2
  clear Pᵢ
  walk_at "m_enterC"
  k_steps
  unfold Stop
  (with_reducible rename Fr _ _ _ _ => F1)
  refine LCg.ListComp_U (F₀ := F1) (by with_unfolding_all rfl) (by decide) (by rfl) (by decide) (by rfl) ?_
  k_steps
  unfold Stop
  (with_reducible rename Fr _ _ _ _ => F3); (with_reducible rename News _ _ _ _ => N3); (with_reducible rename IsRange _ _ _ _ _ _ _ _ => R3)
  refine LCg.CompSrc.range (n := 8) rfl F3 N3 R3 (by decide +kernel) (by decide +kernel) (Nat.le_of_ble_eq_true (by decide +kernel)) fun g' => ?_
  refine CRest.indF (fun i zs => IntsAre zs ((List.range i).map fun k => sgn (ds.getD k 0))) ?fin1 ?step1 .nil
  case step1 =>
    rintro i us h8 hI v I oI C oC Y m₂ h tk5 E' ⟨ta, rfl⟩ hoC hx F2 N2 off ne
    clear F3 N3 R3
    simp only [Int.zero_add] at hx
    have h0 : 0 ≤ ((i : Nat) : Int) := Int.natCast_nonneg _
    have h9 : ((i : Nat) : Int) < (ds.length : Int) := by rw [hn]; exact Int.ofNat_lt.mpr (Nat.lt_succ_of_lt h8)
    have h63 : ((i : Nat) : Int) < 2 ^ 63 := Int.lt_trans (Int.ofNat_lt.mpr h8) (by decide)
    k_steps
    all_goals
      (with_reducible rename Fr _ _ _ _ => F5); (with_reducible rename News _ _ _ _ => N5)
      refine LCg.CompEnd.intro F5 N5 _ (fun p hp => hp) off trivial ⟨rfl, ?_⟩
      first | exact IntsAre.upTo hI (if_pos (beq_iff_eq.mp (by assumption))) | exact IntsAre.upTo hI (if_neg (beq_eq_false_iff_ne.mp (by assumption)))
  case fin1 =>
    rintro zs hS
    intro D2 h2 tk2 F4 N4 o1
    clear F3 N3 R3
    k_steps
    exact ret _ _ _ F4.keep ⟨_, NewL.of N4 (.head _), hS⟩
end
section -- C4
set_option maxHeartbeats 1000000
noncomputable abbrev formsL : List Str := [Str.ofString "(\"))\\\")\"", Str.ofString "\"))\\\")\"(", Str.ofString ")\"((\\\"(\"", Str.ofString "\"((\\\"(\")"]
noncomputable abbrev rev (x : Str) : Str := Txt.sliceBy x none none (-1, 0)
noncomputable def cellOf (d : Int) : Str := if d.fmod 2 = 0 then formsL.getD ((d.fdiv 2).fmod 4).toNat Str.empty else rev (formsL.getD ((d.fdiv 2).fmod 4).toNat Str.empty)
theorem words_C4_1 : True := by
  k_with_none
  w_top off
  k_with "m_enter" => ((
  (have Xᵥ := Base.K (by assumption)); (have Tᵥ := Base.T (by assumption)); revert Tᵥ; revert Xᵥ; k_fill; intro _ _
  k_dflt (refine' enter0 ?k1ᵥ ?k2ᵥ ?k3ᵥ ?k4ᵥ ?k5ᵥ ?k6ᵥ ?k7ᵥ ?k8ᵥ ?k9ᵥ ?k10ᵥ ?_; (case k1ᵥ => assumption); (case k2ᵥ => exact Room.depth (by assumption)); (case k3ᵥ => k_is); (case k4ᵥ => k_is); (case k5ᵥ => first | exact BindsTo.of_eq rfl | exact binds_K (by k_in) rfl (by k_is) rfl rfl rfl | fail "m_enter: no rule for these arguments"); (case k6ᵥ => exact locs rfl); (case k7ᵥ => decide); (case k8ᵥ => exact rfl); (case k9ᵥ => exact rfl); (case k10ᵥ => exact rfl); k_whole; intro _ _ _ _; (try dsimp only); (try k_fold))))
  trivial
theorem forms_fit (i : Nat) : (formsL.getD i Str.empty).length ≤ sizeLine := by
  match i with
  | 0 => exact Nat.le_of_ble_eq_true (by decide +kernel)
  | 1 => exact Nat.le_of_ble_eq_true (by decide +kernel)
  | 2 => exact Nat.le_of_ble_eq_true (by decide +kernel)
  | 3 => exact Nat.le_of_ble_eq_true (by decide +kernel)
  | _ + 4 => exact Nat.zero_le _
local macro_rules | `(tactic| size_fits) => `(tactic| exact forms_fit _)
theorem cells_odd {ds : List Int} {pre : List Int} {k : Int} {cells : List Str} {u : Tok} (h : cells = pre.map fun k => cellOf (ds.getD k.toNat 0)) (hd : ¬ (ds.getD k.toNat 0).fmod 2 = 0) :
    (cells ++ [Txt.sliceBy (formsL.getD (((ds.getD k.toNat 0).fdiv 2).fmod 4).toNat Str.empty) none none (-1, u)]).length = (pre ++ [k]).length ∧
    cells ++ [Txt.sliceBy (formsL.getD (((ds.getD k.toNat 0).fdiv 2).fmod 4).toNat Str.empty) none none (-1, u)] = (pre ++ [k]).map fun k => cellOf (ds.getD k.toNat 0) := by
  subst h
  refine ⟨by simp, ?_⟩
  rw [List.map_append, List.map_cons, List.map_nil, cellOf, if_neg hd]; rfl
theorem cells_even {ds : List Int} {pre : List Int} {k : Int} {cells : List Str} (h : cells = pre.map fun k => cellOf (ds.getD k.toNat 0)) (hd : (ds.getD k.toNat 0).fmod 2 = 0) :
    (cells ++ [formsL.getD (((ds.getD k.toNat 0).fdiv 2).fmod 4).toNat Str.empty]).length = (pre ++ [k]).length ∧
    cells ++ [formsL.getD (((ds.getD k.toNat 0).fdiv 2).fmod 4).toNat Str.empty] = (pre ++ [k]).map fun k => cellOf (ds.getD k.toNat 0) := by
  subst h
  refine ⟨by simp, ?_⟩
  rw [List.map_append, List.map_cons, List.map_nil, cellOf, if_pos hd]
theorem fn_cells (w : World) (mean : ExcName → Option Value) (mg mb : Str → Option Value) (l : Addr) (vs : List Value) (ds : List Int) :
   Fn w mean mg mb 10 246 [.ref l] (fun h => h.IsList l vs.toArray ∧ IntsAre vs ds ∧ ds.length = 9 ∧ ∀ d ∈ ds, 0 ≤ d) (fun h v h' => ∃ ys, NewL h v h' ys ∧ StrsAre ys ((List.range 8).map fun k => cellOf (ds.getD k 0))) := by
  refine Fn.intro fun dp fr gd un g gs dr tk os Q E r B Pᵢ ret => ?_
  have hl := Pᵢ.1
  have hi := Pᵢ.2.1
  have hn := Pᵢ.2.2.1
  have hp := Pᵢ.2.2.2
  clear Pᵢ
  walk_at "m_enter"
  (k_with "exec For Name Call cons nil" => kpr_for)
  (k_with "pyIter ref" => k_state_short (fun pre (cells : List Str) => cells.length = pre.length ∧ cells = pre.map fun k => cellOf (ds.getD k.toNat 0)) "cells$")
  (k_with "table" => skip)
  (k_with "state" => first | exact ⟨rfl, rfl⟩ | exact cells_odd (by assumption) (by first | assumption | (simp_all; done)) | exact cells_even (by assumption) (by first | assumption | (simp_all; done)) | (trace_state; fail))
  k_steps
  (rename StrsAre _ _ => hI)
  (rename _ = List.map _ (rangeKs 0 _) => hE)
  rw [hE] at hI
  exact ret _ _ _ (Fr.keep (by assumption)) ⟨_, NewL.of (by assumption) (.head _), hI⟩
end
section -- Y1
set_option maxHeartbeats 400000
theorem cell_q {d : Int} : (d.fdiv 2).fmod 4 = 0 ∨ (d.fdiv 2).fmod 4 = 1 ∨ (d.fdiv 2).fmod 4 = 2 ∨ (d.fdiv 2).fmod 4 = 3 := by
  rw [Int.fmod_eq_emod_of_nonneg (d.fdiv 2) (by decide)]
  exact mod4 _
theorem cell_b {d : Int} : d.fmod 2 = 0 ∨ d.fmod 2 = 1 := by
  rw [Int.fmod_eq_emod_of_nonneg d (by decide)]
  exact Int.emod_two_eq d
noncomputable def cf8 (x : Str) (s : Int) : Bool := cellsL.contains x && dpt x == s
theorem cf_draw : (cf8 (formsL.getD 0 Str.empty) 1 && cf8 (rev (formsL.getD 0 Str.empty)) (-1) && cf8 (formsL.getD 1 Str.empty) 1 && cf8 (rev (formsL.getD 1 Str.empty)) (-1) && cf8 (formsL.getD 2 Str.empty) (-1) && cf8 (rev (formsL.getD 2 Str.empty)) 1 && cf8 (formsL.getD 3 Str.empty) (-1) && cf8 (rev (formsL.getD 3 Str.empty)) 1) = true := by decide +kernel
theorem cell_draw (d : Int) : cf8 (cellOf d) (sgn d) = true := by
  have h := cf_draw
  simp only [Bool.and_eq_true] at h
  obtain ⟨⟨⟨⟨⟨⟨⟨a0, a1⟩, b0⟩, b1⟩, c0⟩, c1⟩, d0⟩, d1⟩ := h
  unfold cellOf sgn
  rcases cell_q (d := d) with q | q | q | q <;> rcases cell_b (d := d) with b | b <;> rw [q, b] <;> assumption
theorem cell_in (d : Int) : cellOf d ∈ cellsL := by
  have h := cell_draw d
  unfold cf8 at h
  exact List.contains_iff_mem.mp (Bool.and_eq_true_iff.mp h).1
theorem cell_dpt (d : Int) : dpt (cellOf d) = sgn d := by
  have h := cell_draw d
  unfold cf8 at h
  exact eq_of_beq (Bool.and_eq_true_iff.mp h).2
theorem many_of (d : Int) : 2 + d.fmod 3 = 2 ∨ 2 + d.fmod 3 = 3 ∨ 2 + d.fmod 3 = 4 := by
  rw [Int.fmod_eq_emod_of_nonneg d (by decide)]
  rcases mod3 d with e | e | e <;> rw [e]
  · exact .inl rfl
  · exact .inr (.inl rfl)
  · exact .inr (.inr rfl)
end
section -- E3
set_option maxHeartbeats 600000
local macro_rules | `(tactic| k_ne) => `(tactic| (refine neN ?_; (try dsimp only); first | assumption | exact Ne.symm (by assumption) | omega))
theorem words_E3_1 : True := by
  k_with_none
  w_top off
  k_with "m_enter" => ((
  (have Xᵥ := Base.K (by assumption)); (have Tᵥ := Base.T (by assumption)); revert Tᵥ; revert Xᵥ; k_fill; intro _ _
  k_dflt (refine' enter0 ?k1ᵥ ?k2ᵥ ?k3ᵥ ?k4ᵥ ?k5ᵥ ?k6ᵥ ?k7ᵥ ?k8ᵥ ?k9ᵥ ?k10ᵥ ?_; (case k1ᵥ => assumption); (case k2ᵥ => exact Room.depth (by assumption)); (case k3ᵥ => k_is); (case k4ᵥ => k_is); (case k5ᵥ => first | exact BindsTo.of_eq rfl | exact binds_K (by k_in) rfl (by k_is) rfl rfl rfl | fail "m_enter: no rule for these arguments"); (case k6ᵥ => exact locs rfl); (case k7ᵥ => decide); (case k8ᵥ => exact rfl); (case k9ᵥ => exact rfl); (case k10ᵥ => exact rfl); k_whole; intro _ _ _ _; (try dsimp only); (try k_fold))))
  k_with "getMethod str" => ((with_reducible refine m_getenc ?_))
  k_with "call builtin:str.encode" => ((refine m_encC (by assumption) ?_; intro _ _))
  k_with "eval ListComp" => ((refine unstop ?_))
  k_with "CompSrc" => ((refine unstop ?_))
  k_with "fn_room" => ((refine roomUp (by assumption) rfl ?_ ?_ <;> ((try dsimp only [Around.deeper, Around.in1, Around.mark]); first | exact Nat.add_le_add_left (by decide) _ | exact upLe (by decide) | exact upLe2 (by decide) | omega)))
  k_with "call ref" => (((with_reducible show wpAny _ _ (call (Value.ref 51) _) _ _ _); ((rename (∀ _ _, Cell _ → Fn _ _ _ _ _ _ _ _ _) => hfDptᵥ); refine callFn (hfDptᵥ _ _ (by assumption)) (by walk_at "fn_room") (by assumption) (by k_asm) (by k_asm) trivial ?_); intro _ _ _ R0ᵥᵥ _ _ G0ᵥ; clear G0ᵥ; obtain ⟨_, R0ᵥᵥ⟩ := R0ᵥᵥ; subst R0ᵥᵥ; (try k_sweep))); (try (revert G0ᵥ; intro _))
  trivial
theorem off1_all {D : Addr} : ∀ {l : List (Addr × Obj)}, LCg.Off1 D l → ∀ p ∈ l, p.1 ≠ D
  | [], _, _, h => nomatch h
  | _ :: _, x, p, h => by
    rcases List.mem_cons.mp h with rfl | h
    · exact x.1
    · exact off1_all x.2 p h
/-- rows of numbers, newly made -/
structure RowsNew (h h' : Heap) (D : Addr) (ts : List (Addr × List Value)) : Prop where
  ab : Above h h' ((D, LCg.lst (ts.map fun t => Value.ref t.1)) :: ts.reverse.map fun t => (t.1, LCg.lst t.2))
  nd : (ts.map (·.1)).Nodup
  ne : ∀ t ∈ ts, t.1 ≠ D
theorem fn_told (w : World) (mean : ExcName → Option Value) (mg mb : Str → Option Value) (g : Addr) (rows : List (Addr × List Value)) (xr : Nat → List Str) (D : Str → Int) (hD : ∀ x tb, Cell x → Fn w mean mg mb 10 51 [.bytes (enc x) tb] (fun _ => True) (fun _ v _ => ∃ t, v = .int (D x) t))
   (hn : rows.length ≤ 100) (hr : ∀ i r, rows[i]? = some r → StrsAre r.2 (xr i) ∧ (∀ c ∈ xr i, Cell c) ∧ (xr i).length ≤ 100) :
   Fn w mean mg mb 20 261 [.ref g] (fun h => h.IsList g (rows.map fun r => Value.ref r.1).toArray ∧ ∀ r ∈ rows, h.IsList r.1 r.2.toArray)
    (fun h v h' => ∃ D' ts, v = .ref D' ∧ RowsNew h h' D' ts ∧ ts.length = rows.length ∧ ∀ j t, ts[j]? = some t → IntsAre t.2 ((xr j).map D)) := by
  refine Fn.intro fun dp fr gd un g₀ gs dr tk os Q E r B Pᵢ ret => ?_
  have pg := Pᵢ.1
  have pr := Pᵢ.2
  clear Pᵢ
  walk_at "m_enter"
  (rename Fr _ _ _ _ => Fz); (have F := (show Fr g₀ _ _ (fun y => List.lookup y [(Str.ofString "grid", Value.ref g)]) from Fz)); clear Fz
  k_steps
  unfold Stop
  have hsz9 : (1000000 : Nat) ≤ sizeLine := Nat.le_of_ble_eq_true (by decide +kernel)
  refine LCg.ListComp_U (F₀ := F) (by with_unfolding_all rfl) (by decide) (by rfl) (by decide) (by rfl) ?_
  k_steps
  unfold Stop
  (with_reducible rename Fr _ _ _ _ => F1); (with_reducible rename News _ _ _ _ => N1)
  refine LCg.CompSrc.base rfl F1 N1 pg (by rw [List.size_toArray, List.length_map]; omega) fun g' => ?_
  refine CRest.ind _ (fun i ys nw => ∃ ts : List (Addr × List Value), ys = ts.map (fun t => Value.ref t.1) ∧ ts.length = i ∧ nw = (ts.reverse.map fun t => (t.1, LCg.lst t.2)) ∧ (∀ j t, ts[j]? = some t → IntsAre t.2 ((xr j).map D)) ∧ (ts.map (·.1)).Nodup) ?fin1 ?step1 _ 0 [] _ (Nat.zero_add _) ⟨[], rfl, rfl, rfl, (fun j t h => by cases h), .nil⟩
  case step1 =>
    rintro i ys nw hi ⟨ts, rfl, rfl, rfl, q1, q3⟩ v I oI C oC Dd m₂ h tk2 E' hv hoC hx F2 N2 off ne
    clear F1 N1
    have hi' : ts.length < rows.length := by simpa using hi
    obtain ⟨rv, hrv⟩ : ∃ rv, rows[ts.length]? = some rv := ⟨_, List.getElem?_eq_getElem hi'⟩
    obtain rfl : v = Value.ref rv.1 := by
      rw [List.getElem?_toArray, List.getElem?_map, hrv] at hv
      exact (Option.some.inj hv).symm
    obtain ⟨hS, hC, hz⟩ := hr _ _ hrv
    have hL := pr rv (List.mem_of_getElem? hrv)
    have hzl := StrsAre.len hS
    clear hv
    k_steps
    unfold Stop
    (with_reducible rename Fr _ _ _ _ => F3); (with_reducible rename News _ _ _ _ => N3)
    refine LCg.ListComp_U (F₀ := F3) (by with_unfolding_all rfl) (by decide) (by rfl) (by decide) (by rfl) ?_
    k_steps
    unfold Stop
    (with_reducible rename Fr _ _ _ _ => F4); (with_reducible rename News _ _ _ _ => N4)
    refine LCg.CompSrc.base rfl F4 N4 hL (by rw [List.size_toArray]; omega) fun g2 => ?_
    refine CRest.indF (fun i zs => IntsAre zs (((xr ts.length).take i).map D)) ?fin2 ?step2 .nil
    case step2 =>
      rintro i zs hi2 hI v I2 oI2 C2 oC2 D2 m3 h2 tk3 E2 hv2 hoC2 hx2 F5 N5 off2 ne2
      clear F4 N4
      rw [List.getElem?_toArray] at hv2
      obtain ⟨xc, tc, e1, rfl⟩ := StrsAre.get hS hv2
      have hcell := hC xc (List.mem_of_getElem? e1)
      clear hv2
      k_steps
      (with_reducible rename Fr _ _ _ _ => F6); (with_reducible rename News _ _ _ _ => N6)
      refine LCg.CompEnd.intro F6 N6 _ (fun p hp => hp) off2 (.inl hL) ⟨rfl, ?_⟩
      rw [List.take_add_one, e1, List.map_append]
      exact IntsAre.snoc hI _ _
    case fin2 =>
      rintro zs hI
      rw [List.size_toArray, hzl, List.take_length] at hI
      intro D2 h2 tk2 F5 N5 o1
      have o2 := off1_all o1
      refine LCg.CompEnd.intro F5 N5 ((D2, LCg.lst zs) :: (ts.reverse.map fun t => (t.1, LCg.lst t.2))) (allC (.tail _ (.head _)) (allC (.tail _ (.tail _ (.head _))) (allC (.tail _ (.tail _ (.tail _ (.head _)))) (allC (.head _) fun p hp => .tail _ (.tail _ (.tail _ (.tail _ hp))))))) ?_ (.inl pg) ⟨ts ++ [(D2, zs)], by rw [List.map_append]; rfl, by rw [List.length_append]; rfl, by rw [List.reverse_append, List.map_append]; rfl, fun j t hj => ?_, ?_⟩
      · exact ⟨⟨fun e => o2 _ (.head _) e.symm, fun e => o2 _ (.tail _ (.head _)) e.symm, fun e => o2 _ (.tail _ (.tail _ (.head _))) e.symm⟩, off⟩
      · by_cases hjl : j < ts.length
        · rw [List.getElem?_append_left hjl] at hj
          exact q1 j t hj
        · rw [List.getElem?_append_right (Nat.not_lt.mp hjl)] at hj
          by_cases hj0 : j - ts.length = 0
          · rw [hj0] at hj
            cases hj
            have : j = ts.length := by omega
            subst this
            exact hI
          · obtain ⟨k, hk⟩ := Nat.exists_eq_succ_of_ne_zero hj0
            rw [hk] at hj
            cases hj
      · rw [List.map_append, List.nodup_append]
        refine ⟨q3, by simp, fun a ha b hb e => ?_⟩
        obtain ⟨g', hg', rfl⟩ := List.mem_map.mp ha
        rw [List.map_singleton, List.mem_singleton] at hb
        subst hb
        exact o2 (g'.1, LCg.lst g'.2) (.tail _ (.tail _ (.tail _ (List.mem_map.mpr ⟨g', List.mem_reverse.mpr hg', rfl⟩)))) e
  case fin1 =>
    rintro ys nw ⟨ts, rfl, hl, rfl, q1, q3⟩
    intro D2 h2 tk2 F4 N4 o1
    rw [List.size_toArray, List.length_map] at hl
    have o2 := off1_all o1
    exact ret _ _ _ F4.keep ⟨D2, ts, rfl, ⟨News.above N4, q3, fun t ht => o2 (t.1, LCg.lst t.2) (List.mem_map.mpr ⟨t, List.mem_reverse.mpr ht, rfl⟩)⟩, hl, q1⟩
end
section -- C1
set_option maxHeartbeats 4000000
theorem words_C1_1 : True := by
  k_with_none
  w_top off
  k_with "m_enter" => ((
  (have Xᵥ := Base.K (by assumption)); (have Tᵥ := Base.T (by assumption)); revert Tᵥ; revert Xᵥ; k_fill; intro _ _
  k_dflt (refine' enter0 ?k1ᵥ ?k2ᵥ ?k3ᵥ ?k4ᵥ ?k5ᵥ ?k6ᵥ ?k7ᵥ ?k8ᵥ ?k9ᵥ ?k10ᵥ ?_; (case k1ᵥ => assumption); (case k2ᵥ => exact Room.depth (by assumption)); (case k3ᵥ => k_is); (case k4ᵥ => k_is); (case k5ᵥ => first | exact BindsTo.of_eq rfl | exact binds_K (by k_in) rfl (by k_is) rfl rfl rfl | fail "m_enter: no rule for these arguments"); (case k6ᵥ => exact locs rfl); (case k7ᵥ => decide); (case k8ᵥ => exact rfl); (case k9ᵥ => exact rfl); (case k10ᵥ => exact rfl); k_whole; intro _ _ _ _; (try dsimp only); (try k_fold))))
  trivial
theorem num_start : ([8, 7, 3, 2, 4, 9, 5, 6, 13] : List Int).length = 9 ∧ ∀ d ∈ ([8, 7, 3, 2, 4, 9, 5, 6, 13] : List Int), 0 ≤ d := by decide
theorem num_turn {ds : List Int} {i : Nat} {x : Int} (h1 : ds.length = 9) (h2 : ∀ d ∈ ds, 0 ≤ d) :
    (ds.set i (ds.getD i 0 + x.fmod (10 ^ Int.toNat 6))).length = 9 ∧ ∀ d ∈ ds.set i (ds.getD i 0 + x.fmod (10 ^ Int.toNat 6)), 0 ≤ d := by
  refine ⟨by rw [List.length_set]; exact h1, fun d hd => ?_⟩
  rcases List.mem_or_eq_of_mem_set hd with hd | rfl
  · exact h2 d hd
  · have a : 0 ≤ x.fmod (10 ^ Int.toNat 6) := Int.fmod_nonneg_of_pos x (by decide)
    have b : 0 ≤ ds.getD i 0 := by
      rw [List.getD_eq_getElem?_getD]
      cases q : ds[i]? with
      | none => exact Int.le_refl _
      | some y => exact h2 y (List.mem_of_getElem? q)
    omega
theorem fn_numbers (w : World) (mean : ExcName → Option Value) (mg mb : Str → Option Value) (l : Addr) (vs : List Value) (ns : List Int) :
   Fn w mean mg mb 10 239 [.ref l] (fun h => h.IsList l vs.toArray ∧ IntsAre vs ns ∧ ns.length ≤ 63) (fun h v h' => ∃ ys ds, NewL h v h' ys ∧ IntsAre ys ds ∧ ds.length = 9 ∧ ∀ d ∈ ds, 0 ≤ d) := by
  refine Fn.intro fun dp fr gd un g gs dr tk os Q E r B Pᵢ ret => ?_
  have hl := Pᵢ.1
  have hi := Pᵢ.2.1
  have hn := Pᵢ.2.2
  clear Pᵢ
  walk_at "m_enter"
  (k_with "pyIter ref" => k_state (fun pre (draws : List Int) => draws.length = 9 ∧ ∀ d ∈ draws, 0 ≤ d) "draws")
  (k_with "state" => first | exact num_start | exact num_turn (by assumption) (by assumption))
  k_steps
  exact ret _ _ _ (Fr.keep (by assumption)) ⟨_, _, NewL.of (by assumption) (.head _), by assumption, by assumption, by assumption⟩
end
section -- F1
set_option maxHeartbeats 1000000
open PyProof.Rows.LCg
theorem words_F1_1 : True := by
  k_with_none
  w_top off
  k_with "m_enter" => ((
  (have Xᵥ := Base.K (by assumption)); (have Tᵥ := Base.T (by assumption)); revert Tᵥ; revert Xᵥ; k_fill; intro _ _
  k_dflt (refine' enter0 ?k1ᵥ ?k2ᵥ ?k3ᵥ ?k4ᵥ ?k5ᵥ ?k6ᵥ ?k7ᵥ ?k8ᵥ ?k9ᵥ ?k10ᵥ ?_; (case k1ᵥ => assumption); (case k2ᵥ => exact Room.depth (by assumption)); (case k3ᵥ => k_is); (case k4ᵥ => k_is); (case k5ᵥ => first | exact BindsTo.of_eq rfl | exact binds_K (by k_in) rfl (by k_is) rfl rfl rfl | fail "m_enter: no rule for these arguments"); (case k6ᵥ => exact locs rfl); (case k7ᵥ => decide); (case k8ᵥ => exact rfl); (case k9ᵥ => exact rfl); (case k10ᵥ => exact rfl); k_whole; intro _ _ _ _; (try dsimp only); (try k_fold))))
  trivial
theorem getq {α : Type} {l : List α} {i : Nat} {a : α} (h : l.toArray[i]? = some a) : l[i]? = some a := by simpa using h
section
variable {prog : Program} {w : World} {A : Around} {h₀ : Heap} {L : Addr} {m : Str → Option Value} {env : Env} {x y : Str} {px py : Pos} {scope : Scope} {cl : List (Str × Addr)} {s : Shared}
theorem flat2 (S : List (Addr × Obj) → Prop) (v : Value) (Next : List Value → List (Addr × Obj) → Prop) (its : List Value)
    (hk : ∀ C, (compEnvC scope cl C env).scope.kind = .function) (hl : ∀ C, (compEnvC scope cl C env).kindOf y = some .local) (hd : (y == ("__debug__" : Str)) = false) (news : List (Addr × Obj)) (hS : S news) :
    ∀ (k j : Nat) (ys : List Value), j + k = its.length → Next (ys ++ its.drop j) news → Rest2 prog w A h₀ L m env (.Name y py) x y [] scope cl s S (fun j v' => its.toArray[j]? = some v') v Next k j ys news
  | 0, j, ys, hj, h => by
    rw [List.drop_of_length_le (by omega), List.append_nil] at h
    exact h
  | k + 1, j, ys, hj, h => by
    intro v' J oJ I oI C oC D m₂ h' tk E' hP hoC _ hy F N off offJ ne
    refine wpAny_tests_nil ?_
    simp only [if_true]
    refine LCgL.ld_own N (.tail _ (.tail _ (.head _))) hoC hy ?_ (hk C) (hl C) hd
    refine End2.of (s₁ := { s with heap := h', toks := tk }) news F N (fun p hp => hp) off offJ hS ?_
    refine flat2 S v Next its hk hl hd news hS k (j + 1) (ys ++ [v']) (by omega) ?_
    have e := getq hP
    rw [List.drop_eq_getElem_cons (by omega)] at h
    have e2 : its[j]'(by omega) = v' := by
      have := List.getElem?_eq_getElem (l := its) (i := j) (by omega)
      rw [e] at this; exact (Option.some.inj this).symm
    rw [e2] at h
    rw [List.append_assoc]
    exact h
theorem flat1 (S : List (Addr × Obj) → Prop) (Fin : List Value → List (Addr × Obj) → Prop) (rows : List (Addr × List Value)) (hrows : ∀ r ∈ rows, h₀.IsList r.1 r.2.toArray ∧ r.2.length ≤ 1000)
    (hk : ∀ C, (compEnvC scope cl C env).scope.kind = .function) (hl : ∀ C, (compEnvC scope cl C env).kindOf y = some .local) (hd : (y == ("__debug__" : Str)) = false) (hl' : ∀ C, (compEnvC scope cl C env).kindOf x = some .local) (hd' : (x == ("__debug__" : Str)) = false) (news : List (Addr × Obj)) (hS : S news) :
    ∀ (k i : Nat) (ys : List Value), i + k = rows.length → ys.length ≤ 1000 * i → i ≤ 100 → rows.length ≤ 100 → Fin (ys ++ (rows.drop i).flatMap (·.2)) news → Rest1 prog w A h₀ L m env (.Name y py) (.Name x px) x y [] scope cl s S (fun i v => (rows.map fun r => Value.ref r.1).toArray[i]? = some v) Fin k i ys news
  | 0, i, ys, hj, _, _, _, h => by
    rw [List.drop_of_length_le (by omega), List.flatMap_nil, List.append_nil] at h
    exact h
  | k + 1, i, ys, hj, hys, hi, hr, h => by
    intro v I oI C oC D m₂ h' tk E' hP hoC hx F N off ne
    refine LCgL.ld_own N (.tail _ (.head _)) hoC hx ?_ (hk C) (hl' C) hd'
    have e := getq hP
    rw [List.getElem?_map, List.getElem?_eq_getElem (by omega)] at e
    have e := Option.some.inj e
    have hm : rows[i]'(by omega) ∈ rows := List.getElem_mem _
    obtain ⟨h1, h2⟩ := hrows _ hm
    have hsz : (1000000 : Nat) ≤ sizeLine := Nat.le_of_ble_eq_true (by decide +kernel)
    refine ⟨h', tk, news, rfl, F, N, off, hS, .src _ (rows[i]'(by omega)).2.toArray e.symm (.inl h1) (by rw [List.size_toArray]; omega) ?_⟩
    rw [List.drop_eq_getElem_cons (by omega), List.flatMap_cons, ← List.append_assoc] at h
    refine flat2 (fun nw => SrcAt h₀ _ _ nw ∧ S nw) v _ (rows[i]'(by omega)).2 hk hl hd news ⟨.inl h1, hS⟩ _ 0 ys (by simp) ?_
    rw [List.drop_zero]
    exact flat1 S Fin rows hrows hk hl hd hl' hd' news hS k (i + 1) _ (by omega) (by rw [List.length_append]; omega) (by omega) hr h
end
theorem fn_flat (w : World) (mean : ExcName → Option Value) (mg mb : Str → Option Value) (gr : Addr) (rows : List (Addr × List Value)) (hn : rows.length ≤ 100) (hz : ∀ r ∈ rows, r.2.length ≤ 1000) :
   Fn w mean mg mb 10 266 [.ref gr] (fun h => h.IsList gr (rows.map fun r => Value.ref r.1).toArray ∧ ∀ r ∈ rows, h.IsList r.1 r.2.toArray) (fun h v h' => NewL h v h' (rows.flatMap (·.2))) := by
  refine Fn.intro fun dp fr gd un g gs dr tk os Q E r B Pᵢ ret => ?_
  have pg := Pᵢ.1
  have pr := Pᵢ.2
  clear Pᵢ
  walk_at "m_enter"
  k_steps
  (rename Fr _ _ _ _ => F00)
  refine cc_ListComp F00 rfl (by intro _ _; rfl) (by rfl) (by decide) rfl (by decide) rfl rfl rfl ?_ (by intro _; rfl)
  k_steps
  (rename Fr _ _ _ _ => F0); (rename News _ _ _ _ => N0)
  refine .src gr _ _ rfl F0 N0 (.inl pg) ?_
  rintro s₂ ⟨h₂, rfl⟩
  refine flat1 _ _ rows (fun q hq => ⟨pr q hq, hz q hq⟩) (by intro _; rfl) (by intro _; rfl) (by decide) (by intro _; rfl) (by decide) _ (.inl pg) _ 0 [] (by simp) (by simp) (by decide) hn ?_
  intro D h tk F N o1
  rw [List.drop_zero, List.nil_append] at N
  exact ret _ _ _ F.keep ⟨D, _, rfl, (N _ (.head _)).2.2, (N _ (.head _)).1⟩
end
section -- X1
set_option maxHeartbeats 2000000
structure Shape (n : Nat) (len : Nat → Nat) (gn : Nat → List Str) (tn : Nat → List Int) : Prop where
  lg : ∀ i, i < n → (gn i).length = len i
  lt : ∀ i, i < n → (tn i).length = len i
  cl : ∀ i, i < n → ∀ x ∈ gn i, x ∈ cellsL
inductive Steps (n : Nat) (g₀ : Nat → List Str) (t₀ : Nat → List Int) : Nat → (Nat → List Str) → (Nat → List Int) → Prop
  | refl : Steps n g₀ t₀ 0 g₀ t₀
  | step {k g t r c x y} : Steps n g₀ t₀ k g t → (r, c) ∈ firstP t (n - 1) → (g r)[c]? = some x → (g (r + 1))[c]? = some y → Steps n g₀ t₀ (k + 1) (upd (upd g r c (rvs x)) (r + 1) c (rvs y)) (upd (upd t r c (dpt (rvs x))) (r + 1) c (dpt (rvs y)))
theorem words_X1_1 : True := by
  k_with_none
  w_top off
  k_with "gn_enter" => ((
  (have Xᵥ := Base.K (by assumption)); (have Tᵥ := Base.T (by assumption)); revert Tᵥ; revert Xᵥ; k_fill; intro _ _
  k_dflt (refine' enter0G ?k1ᵥ ?k2ᵥ ?k3ᵥ ?k4ᵥ ?k5ᵥ ?k6ᵥ ?k7ᵥ ?k8ᵥ ?k9ᵥ ?k10ᵥ ?_; (case k1ᵥ => exact Base.keeps (by assumption) (by assumption)); (case k2ᵥ => exact Room.depth (by assumption)); (case k3ᵥ => k_is); (case k4ᵥ => k_is); (case k5ᵥ => first | exact BindsTo.of_eq rfl | exact binds_K (by k_in) rfl (by k_is) rfl rfl rfl | fail "m_enter: no rule for these arguments"); (case k6ᵥ => exact locs rfl); (case k7ᵥ => decide); (case k8ᵥ => exact rfl); (case k9ᵥ => exact rfl); (case k10ᵥ => exact rfl); k_whole; intro _ _ _ _ _; (try dsimp only); (try k_fold))))
  trivial
theorem RowsIn.grid {n : Nat} {ga ta : Nat → Addr} {gv tv : Nat → List Value} {gn : Nat → List Str} {tn : Nat → List Int} {more pre : List (Addr × Obj)} {h₀ h : Heap} {L tl : Addr} {m : Str → Option Value} (R : RowsIn n ga ta gv tv gn tn more) (F : Fr h₀ L h m) (N : News h₀ L h (pre ++ more)) (hl : h₀.IsList tl ((List.range n).map fun i => Value.ref (ta i)).toArray) : Grid h tl n ta tv tn where
  top := hl.at fun o e => F.keep _ o e
  row := fun i hi => by
    obtain ⟨o, ep, hm, h1, h2⟩ := R.t i hi
    exact ⟨o, (N _ (List.mem_append_right _ hm)).1, h1, ep, h2⟩
  int := R.ti
theorem apart_of {gb h h' : Heap} {L : Addr} {ns more : List (Addr × Obj)} (a : Above h h' ns) (N : News gb L h more) : ∀ p ∈ ns, ∀ q ∈ more, p.1 ≠ q.1 := fun p hp q hq e => by
  have h1 := (a p hp).2
  rw [e, (N q hq).1] at h1
  cases h1
theorem apart_swap {ns more : List (Addr × Obj)} {a : Addr} {o : Obj} (h : ∀ p ∈ ns, ∀ q ∈ more, p.1 ≠ q.1) : ∀ p ∈ ns, ∀ q ∈ swapAt more a o, p.1 ≠ q.1 := fun p hp q hq => by
  obtain ⟨q', hq', e⟩ := List.mem_map.mp hq
  by_cases e2 : q'.1 = a
  · rw [if_pos e2] at e; subst e; rw [← e2]; exact h p hp q' hq'
  · rw [if_neg e2] at e; subst e; exact h p hp q' hq'
theorem words_X1_2 : True := by
  k_with "fn_room" => ((refine roomUp (by assumption) rfl ?_ ?_ <;> ((try dsimp only [Around.deeper, Around.in1, Around.mark]); first | exact Nat.add_le_add_left (by decide) _ | exact upLe (by decide) | exact upLe2 (by decide) | omega)))
  trivial
theorem Shape.z {n : Nat} {len : Nat → Nat} {gn : Nat → List Str} {tn : Nat → List Int} (S : Shape n len gn tn) (hlen : ∀ i, i < n → len i ≤ 8) : ∀ i, i < n → (tn i).length ≤ 8 := fun i hi => by rw [S.lt i hi]; exact hlen i hi
theorem Shape.m {n : Nat} {len : Nat → Nat} {gn : Nat → List Str} {tn : Nat → List Int} (S : Shape n len gn tn) (hmono : ∀ i, i + 1 < n → len (i + 1) ≤ len i) : ∀ i, i + 1 < n → (tn (i + 1)).length ≤ (tn i).length := fun i hi => by rw [S.lt i (by omega), S.lt (i + 1) hi]; exact hmono i hi
theorem more_of {n : Nat} {ga ta : Nat → Addr} {gv tv : Nat → List Value} {gn : Nat → List Str} {tn : Nat → List Int} {more : List (Addr × Obj)} {h₀ h : Heap} {L : Addr} (R : RowsIn n ga ta gv tv gn tn more) (N : News h₀ L h more) : News h₀ L h more := N
theorem words_X1_3 : True := by
  k_with "more_news" => (((rename News _ _ _ _ => nwMᵥ); exact fun p hp => nwMᵥ p (by repeat (first | exact hp | exact List.mem_append_right _ hp | apply List.Mem.tail))))
  k_with "call ref" => (((with_reducible show wpAny _ _ (call (Value.ref 283) _) _ _ _); (rename RowsIn _ _ _ _ _ _ _ _ => rwPᵥ); (have nwPᵥ := more_of rwPᵥ (by walk_at "more_news")); refine callFn (fn_pairs _ _ _ _ _ _ _ _ _ (by assumption) (Shape.z (by assumption) (by assumption)) (Shape.m (by assumption) (by assumption))) (by walk_at "fn_room") (by assumption) (by k_asm) nwPᵥ (RowsIn.grid (pre := []) rwPᵥ (by k_asm) nwPᵥ (by assumption)) ?_; intro _ _ _ R0ᵥᵥ _ N0ᵥ G0ᵥ; clear G0ᵥ; obtain ⟨_, _, _, R0ᵥᵥ, A0ᵥ, _⟩ := R0ᵥᵥ; subst R0ᵥᵥ; (have P0ᵥ := apart_of A0ᵥ nwPᵥ); (have N1ᵥ := News.addNew (by assumption) N0ᵥ A0ᵥ); clear A0ᵥ N0ᵥ nwPᵥ; (try simp only [List.cons_append] at N1ᵥ))); (try (revert N0ᵥ; intro _)); (try (revert G0ᵥ; intro _)); (try (revert nwPᵥ; intro _)); (try (revert P0ᵥ; intro _)); (try (revert N1ᵥ; intro _))
  trivial
theorem firstP_len {t : Nat → List Int} : ∀ (i : Nat), (∀ a, a < i → (t (a + 1)).length ≤ 8) → (firstP t i).length ≤ 8 * i
  | 0, _ => Nat.le_refl _
  | i + 1, h => by
    have h1 := firstP_len i fun a ha => h a (by omega)
    have h2 := h i (by omega)
    rw [firstP_succ, List.length_append]
    have h3 : (rowP t i (t (i + 1)).length).length ≤ (t (i + 1)).length := by
      unfold rowP
      rw [List.length_map]
      exact Nat.le_trans (List.length_filter_le _ _) (by rw [List.length_range]; exact Nat.le_refl _)
    omega
theorem firstP_mem {t : Nat → List Int} {i r c : Nat} (h : (r, c) ∈ firstP t i) : r < i ∧ c < (t (r + 1)).length := by
  obtain ⟨a, ha, hm⟩ := List.mem_flatMap.mp h
  obtain ⟨b, hb, e⟩ := List.mem_map.mp hm
  cases e
  exact ⟨List.mem_range.mp ha, List.mem_range.mp (List.mem_filter.mp hb).1⟩
noncomputable abbrev sPairs : Str := Str.ofString "pairs"
noncomputable abbrev sMoves : Str := Str.ofString "moves"
noncomputable abbrev sPick : Str := Str.ofString "pick"
noncomputable abbrev sTold : Str := Str.ofString "told"
noncomputable abbrev sGrid : Str := Str.ofString "grid"
structure Names (m : Str → Option Value) (D gr tl : Addr) (mv pick : Int) (tm tp : Tok) : Prop where
  h1 : m (Str.ofString "pairs") = some (.ref D)
  h2 : m (Str.ofString "moves") = some (.int mv tm)
  h3 : m (Str.ofString "pick") = some (.int pick tp)
  h4 : m (Str.ofString "told") = some (.ref tl)
  h5 : m (Str.ofString "grid") = some (.ref gr)
theorem Names.frm {m : Str → Option Value} {D gr tl : Addr} {mv pick : Int} {tm tp : Tok} (h : Names m D gr tl mv pick tm tp) :
    m = fun y => if y = Str.ofString "pairs" then some (.ref D) else if y = Str.ofString "moves" then some (.int mv tm) else if y = Str.ofString "pick" then some (.int pick tp) else if y = Str.ofString "told" then some (.ref tl) else if y = Str.ofString "grid" then some (.ref gr) else m y := by
  funext y
  by_cases e1 : y = Str.ofString "pairs"
  · rw [if_pos e1, e1, h.h1]
  rw [if_neg e1]
  by_cases e2 : y = Str.ofString "moves"
  · rw [if_pos e2, e2, h.h2]
  rw [if_neg e2]
  by_cases e3 : y = Str.ofString "pick"
  · rw [if_pos e3, e3, h.h3]
  rw [if_neg e3]
  by_cases e4 : y = Str.ofString "told"
  · rw [if_pos e4, e4, h.h4]
  rw [if_neg e4]
  by_cases e5 : y = Str.ofString "grid"
  · rw [if_pos e5, e5, h.h5]
  rw [if_neg e5]
theorem m_truthy {prog : Program} {w : World} {A : Around} {E : Value → Shared → Prop} {s : Shared} {h₀ : Heap} {L D : Addr} {news : List (Addr × Obj)} {ys : List Value} {Q : Bool → Shared → Prop} (N : News h₀ L s.heap news) (hm : (D, LCg.lst ys) ∈ news) (hz : ys.length ≤ 1000)
    (h1 : ys = [] → Q false { s with toks := s.toks + 1 + 1 }) (h2 : ys ≠ [] → Q true { s with toks := s.toks + 1 + 1 }) : wpAny (model prog w) A (truthy (.ref D)) Q E s := by
  refine wpAny_truthy_list (items := ys.toArray) ⟨_, (N _ hm).1, rfl, _, rfl⟩ (by simp; omega) ?_
  cases ys with
  | nil => exact h1 rfl
  | cons y ys => exact h2 (by simp)
inductive XI (gb : Heap) (L gr tl : Addr) (n : Nat) (ga ta : Nat → Addr) (len : Nat → Nat) (pick : Int) (tp : Tok) (gn : Nat → List Str) (tn : Nat → List Int) (s₀ : Shared) (k : Nat) (s' : Shared) : Prop
  | mk (h : Heap) (tk : Nat) (m : Str → Option Value) (D : Addr) (ys : List Value) (mp : List (Addr × Obj)) (gv tv : Nat → List Value) (g : Nat → List Str) (t : Nat → List Int) (mv : Nat) (tm : Tok) (more : List (Addr × Obj)) (es : s' = { s₀ with heap := h, toks := tk }) (F : Fr gb L h m) (NM : Names m D gr tl ((mv : Nat) : Int) pick tm tp) (N : News gb L h ((D, LCg.lst ys) :: (mp ++ more))) (T : TupsIn (firstP t (n - 1)) ys mp) (P : ∀ p ∈ (D, LCg.lst ys) :: mp, ∀ q ∈ more, p.1 ≠ q.1) (R : RowsIn n ga ta gv tv g t more) (Sh : Shape n len g t) (St : Steps n gn tn mv g t) (hk : k + mv = 9)
section
variable {prog : Program} {w : World} {A : Around} {E : Value → Shared → Prop} {s : Shared} {h₀ : Heap} {L D : Addr} {news : List (Addr × Obj)} {ys : List Value} {Q : Value → Shared → Prop}
theorem m_lenY (N : News h₀ L s.heap news) (hm : (D, LCg.lst ys) ∈ news) (hz : ys.length ≤ 1000) (h : Q (.int (ys.length : Int) (s.toks + 1)) { s with toks := s.toks + 1 + 1 }) : wpAny (model prog w) A (call (.builtin "len") [.ref D]) Q E s := by
  refine len_list (items := ys.toArray) ⟨_, (N _ hm).1, rfl, _, rfl⟩ (by simp; omega) ?_
  rw [List.size_toArray]; exact h
theorem m_pair {value slice : Expr} {k : Int} {u : Tok} {ps : List (Nat × Nat)} {mp : List (Addr × Obj)} (N : News h₀ L s.heap news) (hm : (D, LCg.lst ys) ∈ news) (T : TupsIn ps ys mp) (hz : ys.length ≤ 1000) (h0 : 0 ≤ k) (h1 : k < (ys.length : Int))
    (h : ∀ r c T' t t', (r, c) ∈ ps → (T', tup2 (r, c) t t') ∈ mp → Q (.ref T') s)
    (hs : subscripted slice false (.ref D) (.int k u) = operate [.ref D, .int k u] (getItem (.ref D) (.int k u))) (hg : ∀ r, letTemporaryGo value (.ref D) r = pure ()) :
    wpAny (model prog w) A (subscriptTail value slice (.ref D) (.int k u)) Q E s := by
  have hlt : k.toNat < ps.length := by rw [← T.1]; omega
  obtain ⟨T', t, t', e, hm'⟩ := T.2 k.toNat (ps[k.toNat]'hlt) (List.getElem?_eq_getElem hlt)
  exact item_list (items := ys.toArray) ⟨_, (N _ hm).1, rfl, _, rfl⟩ h0 (by omega) (by simpa using e) (h _ _ T' t t' (List.getElem_mem hlt) hm') hs hg
theorem News.dup {h : Heap} {p : Addr × Obj} (N : News h₀ L h news) (hm : p ∈ news) : News h₀ L h (p :: news) := fun q hq => by
  rcases List.mem_cons.mp hq with rfl | hq
  · exact N _ hm
  · exact N q hq
end
theorem words_X1_4 : True := by
  k_with "call builtin:len" => (((with_reducible show wpAny _ _ (call (Value.builtin "len") [Value.ref _]) _ _ _); refine m_lenY (by k_asm) (by k_mem) (by assumption) ?_))
  k_with "subscriptTail" => (((with_reducible show wpAny _ _ (subscriptTail _ _ (Value.ref _) (Value.int (Int.fmod _ _) _)) _ _ _); (rename News _ _ _ _ => nwQᵥ); refine m_pair nwQᵥ (.head _) (by assumption) (by assumption) (Int.fmod_nonneg_of_pos _ (by omega)) (Int.fmod_lt_of_pos _ (by omega)) ?_ (by with_unfolding_all rfl) (by intro _; with_unfolding_all rfl); intro _ _ _ _ _ _ hT9ᵥ; (have N9ᵥ := News.dup nwQᵥ (.tail _ (List.mem_append_left _ hT9ᵥ))); clear nwQᵥ)); (try (revert hT9ᵥ; intro _)); (try (revert N9ᵥ; intro _))
  trivial
inductive CellsAt (n : Nat) (len : Nat → Nat) (g : Nat → List Str) (r c : Nat) : Prop
  | mk (hr1 : r + 1 < n) (hc8 : c < 8) (hcr : c < len r) (hcr1 : c < len (r + 1)) (x y : Str) (hx : (g r)[c]? = some x) (hy : (g (r + 1))[c]? = some y) (mx : x ∈ cellsL) (my : y ∈ cellsL)
theorem cells_at {n : Nat} {len : Nat → Nat} {g : Nat → List Str} {t : Nat → List Int} (Sh : Shape n len g t) (hlen : ∀ i, i < n → len i ≤ 8) (hmono : ∀ i, i + 1 < n → len (i + 1) ≤ len i) (hn : 1 ≤ n ∧ n ≤ 8) {r c : Nat} (h : (r, c) ∈ firstP t (n - 1)) :
    CellsAt n len g r c := by
  obtain ⟨h1, h2⟩ := firstP_mem h
  have hr : r + 1 < n := by omega
  rw [Sh.lt (r + 1) hr] at h2
  have h3 := hmono r hr
  have h4 := hlen (r + 1) hr
  have l1 : c < (g r).length := by rw [Sh.lg r (by omega)]; omega
  have l2 : c < (g (r + 1)).length := by rw [Sh.lg (r + 1) hr]; omega
  exact ⟨hr, by omega, by omega, h2, _, _, List.getElem?_eq_getElem l1, List.getElem?_eq_getElem l2, Sh.cl r (by omega) _ (List.getElem_mem _), Sh.cl (r + 1) hr _ (List.getElem_mem _)⟩
theorem tnq (r : Nat) : ((r : Int) + 1).toNat = r + 1 := by omega
theorem tnri (r i : Nat) : ((r : Int) + (i : Int)).toNat = r + i := by omega
theorem tnq0 (r : Nat) : ((r : Int) + 0).toNat = r := by omega
structure Names8 (m : Str → Option Value) (b : Array UInt8) (tb : Tok) (r c : Nat) (tr tc : Tok) (D gr tl : Addr) (mv pick : Int) (tm tp : Tok) : Prop where
  n5 : Names m D gr tl mv pick tm tp
  h6 : m (Str.ofString "both") = some (.bytes b tb)
  h7 : m (Str.ofString "r") = some (.int (r : Int) tr)
  h8 : m (Str.ofString "c") = some (.int (c : Int) tc)
theorem words_X1_5 : True := by
  k_with "subscriptTail" => (((with_reducible show wpAny _ _ (subscriptTail _ _ (Value.ref _) (Value.int _ _)) _ _ _); first
  | (refine r_top (by k_asm) (by assumption) (by (try dsimp only); omega) (by (try dsimp only); omega) (by omega) ?_ (by with_unfolding_all rfl) (by intro _; with_unfolding_all rfl); (try dsimp only); (try simp only [Int.toNat_natCast, tnq, tnq0, tnri]))
  | ((rename RowsIn _ _ _ _ _ _ _ _ => rwRᵥ); refine r_cell (by walk_at "more_news") rwRᵥ (by omega) (by (try dsimp only); omega) (by (try dsimp only); omega) (by (try dsimp only); (try simp only [Int.toNat_natCast]); assumption) ?_ (by with_unfolding_all rfl) (by intro _; with_unfolding_all rfl); intro _)))
  k_with "getMethod str" => ((with_reducible refine m_getenc ?_))
  k_with "call builtin:str.encode" => ((refine m_enc (by assumption) (by assumption) (by assumption) ?_; intro _ _))
  trivial
theorem Names8.frm {m : Str → Option Value} {b : Array UInt8} {tb : Tok} {r c : Nat} {tr tc : Tok} {D gr tl : Addr} {mv pick : Int} {tm tp : Tok} (h : Names8 m b tb r c tr tc D gr tl mv pick tm tp) :
    m = fun y => if y = Str.ofString "both" then some (.bytes b tb) else if y = Str.ofString "r" then some (.int (r : Int) tr) else if y = Str.ofString "c" then some (.int (c : Int) tc) else if y = Str.ofString "pairs" then some (.ref D) else if y = Str.ofString "moves" then some (.int mv tm) else if y = Str.ofString "pick" then some (.int pick tp) else if y = Str.ofString "told" then some (.ref tl) else if y = Str.ofString "grid" then some (.ref gr) else m y := by
  funext y
  by_cases e1 : y = Str.ofString "both"
  · rw [if_pos e1, e1, h.h6]
  rw [if_neg e1]
  by_cases e2 : y = Str.ofString "r"
  · rw [if_pos e2, e2, h.h7]
  rw [if_neg e2]
  by_cases e3 : y = Str.ofString "c"
  · rw [if_pos e3, e3, h.h8]
  rw [if_neg e3]
  exact congrFun h.n5.frm y
noncomputable def stG (g : Nat → List Str) (r c : Nat) (x y : Str) : Nat → Nat → List Str
  | 0 => g
  | 1 => upd g r c (rvs x)
  | _ => upd (upd g r c (rvs x)) (r + 1) c (rvs y)
noncomputable def stT (t : Nat → List Int) (r c : Nat) (x y : Str) : Nat → Nat → List Int
  | 0 => t
  | 1 => upd t r c (dpt (rvs x))
  | _ => upd (upd t r c (dpt (rvs x))) (r + 1) c (dpt (rvs y))
noncomputable def pickZ (x y : Str) : Nat → Str
  | 0 => x
  | _ => y
inductive XJ (n : Nat) (ga ta : Nat → Addr) (b : Array UInt8) (tb : Tok) (r c : Nat) (tr tc : Tok) (D gr tl : Addr) (mv pick : Int) (tm tp : Tok) (head mp more₀ : List (Addr × Obj)) (x y : Str) (g : Nat → List Str) (t : Nat → List Int) (i : Nat) (m : Str → Option Value) (nx : List (Addr × Obj)) : Prop
  | mk (gv tv : Nat → List Value) (more : List (Addr × Obj)) (en : nx = head ++ (mp ++ more)) (N8 : Names8 m b tb r c tr tc D gr tl mv pick tm tp) (R : RowsIn n ga ta gv tv (stG g r c x y i) (stT t r c x y i) more) (me : more.map (·.1) = more₀.map (·.1))
/-- a turn's end -/
inductive TurnX (gb : Heap) (L : Addr) (s : Shared) (n : Nat) (ga ta : Nat → Addr) (b : Array UInt8) (tb : Tok) (r c : Nat) (tr tc : Tok) (D gr tl : Addr) (mv pick : Int) (tm tp : Tok) (pre more₀ : List (Addr × Obj)) (g : Nat → List Str) (t : Nat → List Int) (f : Flow) (s₂ : Shared) : Prop
  | mk (ef : f = .next) (h' : Heap) (tk' : Nat) (m' : Str → Option Value) (gv tv : Nat → List Value) (more : List (Addr × Obj)) (es : s₂ = { s with heap := h', toks := tk' }) (F : Fr gb L h' m') (N : News gb L h' (pre ++ more)) (N8 : Names8 m' b tb r c tr tc D gr tl mv pick tm tp) (R : RowsIn n ga ta gv tv g t more) (me : more.map (·.1) = more₀.map (·.1))
inductive ExchOut (gb : Heap) (n : Nat) (ga ta : Nat → Addr) (gn : Nat → List Str) (tn : Nat → List Int) (v : Value) (h' : Heap) : Prop
  | mk (k : Nat) (t : Tok) (gv' tv' : Nat → List Value) (gn' : Nat → List Str) (tn' : Nat → List Int) (more' : List (Addr × Obj)) (ev : v = .int (k : Int) t) (ab : Above gb h' more') (R : RowsIn n ga ta gv' tv' gn' tn' more') (St : Steps n gn tn k gn' tn') (fin : firstP tn' (n - 1) = [] ∨ 9 ≤ k)
theorem swapAt_map (more : List (Addr × Obj)) (a : Addr) (o : Obj) : (swapAt more a o).map (·.1) = more.map (·.1) := by
  unfold swapAt
  rw [List.map_map]
  refine List.map_congr_left fun p _ => ?_
  show (if p.1 = a then (a, o) else p).1 = p.1
  by_cases e : p.1 = a
  · rw [if_pos e]; exact e.symm
  · rw [if_neg e]
section
variable {prog : Program} {w : World} {A : Around} {E : Value → Shared → Prop} {s : Shared} {h₀ : Heap} {L : Addr} {m : Str → Option Value} {pre more : List (Addr × Obj)} {n : Nat} {ga ta : Nat → Addr} {gv tv : Nat → List Value} {gn : Nat → List Str} {tn : Nat → List Int} {k : Int} {u : Tok} {i : Nat} {Q : Unit → Shared → Prop}
theorem r_setG {x : Str} {t : Tok} (Z : Apart n ga ta) (F : Fr h₀ L s.heap m) (N : News h₀ L s.heap (pre ++ more)) (R : RowsIn n ga ta gv tv gn tn more) (hap : ∀ p ∈ pre, ∀ a ∈ more.map (·.1), p.1 ≠ a) (hi : i < n) (h0 : 0 ≤ k) (h1 : k < ((gn i).length : Int)) (hz : k < 1000)
    (h : ∀ h' gv' more', Fr h₀ L h' m → News h₀ L h' (pre ++ more') → RowsIn n ga ta gv' tv (upd gn i k.toNat x) tn more' → more'.map (·.1) = more.map (·.1) → Q () { s with heap := h' }) :
    wpAny (model prog w) A (setItem (.ref (ga i)) (.int k u) (.str x t)) Q E s := by
  have e := StrsAre.len (R.gs i hi)
  have ho := R.g i hi
  refine r_set F N (fun p hp => hap p hp _ (by obtain ⟨o, ep, hm, _⟩ := ho; exact List.mem_map_of_mem (f := (·.1)) hm)) ho h0 (by omega) hz fun h' o' ep' F' N' hc hd => ?_
  exact h h' _ _ F' N' (R.setG Z hi k.toNat x t hc hd) (swapAt_map _ _ _)
theorem r_setT {x : Int} {t : Tok} (Z : Apart n ga ta) (F : Fr h₀ L s.heap m) (N : News h₀ L s.heap (pre ++ more)) (R : RowsIn n ga ta gv tv gn tn more) (hap : ∀ p ∈ pre, ∀ a ∈ more.map (·.1), p.1 ≠ a) (hi : i < n) (h0 : 0 ≤ k) (h1 : k < ((tn i).length : Int)) (hz : k < 1000)
    (h : ∀ h' tv' more', Fr h₀ L h' m → News h₀ L h' (pre ++ more') → RowsIn n ga ta gv tv' gn (upd tn i k.toNat x) more' → more'.map (·.1) = more.map (·.1) → Q () { s with heap := h' }) :
    wpAny (model prog w) A (setItem (.ref (ta i)) (.int k u) (.int x t)) Q E s := by
  have e := (R.ti i hi).length
  have ho := R.t i hi
  refine r_set F N (fun p hp => hap p hp _ (by obtain ⟨o, ep, hm, _⟩ := ho; exact List.mem_map_of_mem (f := (·.1)) hm)) ho h0 (by omega) hz fun h' o' ep' F' N' hc hd => ?_
  exact h h' _ _ F' N' (R.setT Z hi k.toNat x t hc hd) (swapAt_map _ _ _)
theorem m_decE {z : Str} {t t2 : Tok} {Q : Value → Shared → Prop} (hz : z ∈ cellsL) (h : ∀ t' k, Q (.str z t') { s with toks := k }) :
    wpAny (model prog w) A (call (.builtin "bytes.decode") [.bytes (enc z) t, .str (PySem.Str.ofString "ascii") t2]) Q E s := by
  obtain ⟨c, cs, n, e, hd⟩ := dec_of hz
  rw [e]
  have hsz : (1000000 : Nat) ≤ sizeLine := Nat.le_of_ble_eq_true (by decide +kernel)
  have := (cell_of hz).sz
  exact m_dec hd (by show z.cps.size ≤ _; omega) h
end
theorem upd_same {α : Type} {f : Nat → List α} {r c : Nat} {v : α} : upd f r c v r = (f r).set c v := if_pos rfl
theorem upd_other {α : Type} {f : Nat → List α} {r j c : Nat} {v : α} (h : j ≠ r) : upd f r c v j = f j := if_neg h
theorem upd_length {α : Type} (f : Nat → List α) (r c : Nat) (v : α) (j : Nat) : (upd f r c v j).length = (f j).length := by
  unfold upd
  by_cases e : j = r
  · rw [if_pos e, List.length_set, e]
  · rw [if_neg e]
theorem Shape.move {n : Nat} {len : Nat → Nat} {g : Nat → List Str} {t : Nat → List Int} (Sh : Shape n len g t) {x : Str} (hx : x ∈ cellsL) (r c : Nat) (d : Int) : Shape n len (upd g r c x) (upd t r c d) where
  lg := fun i hi => by rw [upd_length]; exact Sh.lg i hi
  lt := fun i hi => by rw [upd_length]; exact Sh.lt i hi
  cl := fun i hi z hz => by
    by_cases e : i = r
    · subst e
      rw [upd_same] at hz
      rcases List.mem_or_eq_of_mem_set hz with hz | rfl
      · exact Sh.cl i hi z hz
      · exact hx
    · rw [upd_other e] at hz
      exact Sh.cl i hi z hz
theorem ex_news {h₀ h : Heap} {L : Addr} {a b c : Addr × Obj} {mp more own : List (Addr × Obj)} (N : News h₀ L h (([a, b, c] ++ (mp ++ more)) ++ own)) : News h₀ L h ((a :: b :: c :: (mp ++ own)) ++ more) := News.sub N (by
  intro p hp
  simp only [List.cons_append, List.nil_append, List.mem_cons, List.mem_append] at hp ⊢
  rcases hp with h | h | h | (h | h) | h <;> simp [h])
theorem allLt_mem {d : Addr} {l : List (Addr × Obj)} (h : AllLt d l) (p : Addr × Obj) (hp : p ∈ l) : @LT.lt Nat _ p.1 d := by
  induction l with
  | nil => cases hp
  | cons q l ih =>
    rcases List.mem_cons.mp hp with rfl | hp
    · exact h.1
    · exact ih h.2 hp
theorem ex_apart {l T D : Addr} {ol oT oD : Obj} {mp more own : List (Addr × Obj)} (h1 : AllLt l (mp ++ more)) (hT : (T, oT) ∈ mp) (P : ∀ p ∈ (D, oD) :: mp, ∀ q ∈ more, p.1 ≠ q.1) (hoff : OwnOff own (List.map (·.1) ((l, ol) :: (T, oT) :: (D, oD) :: (mp ++ more)))) :
    ∀ p ∈ (l, ol) :: (T, oT) :: (D, oD) :: (mp ++ own), ∀ a ∈ more.map (·.1), p.1 ≠ a := by
  intro p hp a ha
  obtain ⟨q, hq, rfl⟩ := List.mem_map.mp ha
  simp only [List.mem_cons, List.mem_append] at hp
  rcases hp with rfl | rfl | rfl | hp | hp
  · exact Nat.ne_of_gt (allLt_mem h1 q (List.mem_append_right _ hq))
  · exact P _ (.tail _ hT) q hq
  · exact P _ (.head _) q hq
  · exact P _ (.tail _ hp) q hq
  · exact hoff p hp q.1 (List.mem_map_of_mem (f := (·.1)) (.tail _ (.tail _ (.tail _ (List.mem_append_right _ hq)))))
inductive StF (n : Nat) (g : Nat → List Str) (t : Nat → List Int) (r c : Nat) (x y : Str) (i : Nat) : Prop
  | mk (hri : r + i < n) (z : Str) (mz : z ∈ cellsL) (mrz : rvs z ∈ cellsL) (hsw : KBy.picked (both x y) (some (8 * (i : Int))) (some (8 * (i : Int) + 8)) = enc (rvs z)) (hgl : c < (stG g r c x y i (r + i)).length) (htl : c < (stT t r c x y i (r + i)).length)
    (eG : stG g r c x y (i + 1) = upd (stG g r c x y i) (r + i) c (rvs z)) (eT : stT t r c x y (i + 1) = upd (stT t r c x y i) (r + i) c (dpt (rvs z)))
theorem st_facts {n : Nat} {len : Nat → Nat} {g : Nat → List Str} {t : Nat → List Int} (Sh : Shape n len g t) {r c : Nat} {x y : Str} (hr1 : r + 1 < n) (hcr : c < len r) (hcr1 : c < len (r + 1)) (mx : x ∈ cellsL) (my : y ∈ cellsL)
    (sw1 : KBy.picked (both x y) (some 0) (some 8) = enc (rvs x)) (sw2 : KBy.picked (both x y) (some 8) (some 16) = enc (rvs y)) {i : Nat} (hi : i < 2) : StF n g t r c x y i := by
  rcases i with _ | _ | i
  · have e : (8 * ((0 : Nat) : Int)) = 0 := by decide
    have e' : (8 * ((0 : Nat) : Int) + 8) = 8 := by decide
    refine ⟨by omega, x, mx, (rvs_mem mx).1, by rw [e', e]; exact sw1, ?_, ?_, rfl, rfl⟩
    · show c < (g (r + 0)).length
      rw [Nat.add_zero, Sh.lg r (by omega)]; exact hcr
    · show c < (t (r + 0)).length
      rw [Nat.add_zero, Sh.lt r (by omega)]; exact hcr
  · have e : (8 * ((0 + 1 : Nat) : Int)) = 8 := by decide
    have e' : (8 * ((0 + 1 : Nat) : Int) + 8) = 16 := by decide
    refine ⟨by omega, y, my, (rvs_mem my).1, by rw [e', e]; exact sw2, ?_, ?_, rfl, rfl⟩
    · show c < (upd g r c (rvs x) (r + 1)).length
      rw [upd_length, Sh.lg (r + 1) hr1]; exact hcr1
    · show c < (upd t r c (dpt (rvs x)) (r + 1)).length
      rw [upd_length, Sh.lt (r + 1) hr1]; exact hcr1
  · omega
theorem ex_sub {a b c : Addr × Obj} {mp more own : List (Addr × Obj)} : ∀ p ∈ [a, b, c] ++ (mp ++ more), p ∈ (a :: b :: c :: (mp ++ own)) ++ more := by
  intro p hp
  simp only [List.cons_append, List.nil_append, List.mem_cons, List.mem_append] at hp ⊢
  rcases hp with h | h | h | h | h <;> simp [h]
theorem ex_own {a b c : Addr × Obj} {mp more own : List (Addr × Obj)} : ∀ p ∈ own, p ∈ (a :: b :: c :: (mp ++ own)) ++ more := by
  intro p hp
  simp [hp]
theorem words_X1_6 : True := by
  k_with "subscriptTail Name Slice bytes ref" => (((with_reducible rename Fr _ _ _ _ => F'ᵥ); (with_reducible rename News _ _ _ _ => N'ᵥ); (refine KBc.slice_K (s := ⟨_, _, _, _, _⟩) F'ᵥ N'ᵥ rfl (by constructor) (by constructor) (by rw [KBw.ints_length]; omega) ?_); intro _ _ _ F'ᵥ N'ᵥ kbcKᵥ; clear kbcKᵥ; (rename (KBy.picked _ _ _ = _) => hswᵥ); rw [hswᵥ])); (try (revert F'ᵥ; intro _)); (try (revert N'ᵥ; intro _)); (try (revert kbcKᵥ; intro _))
  k_with "call builtin:bytes.decode" => ((refine m_decE (by assumption) ?_; intro _ _))
  k_with "setItem ref int str" => (((rename News _ _ _ _ => nwSᵥ); (rename RowsIn _ _ _ _ _ _ _ _ => rwSᵥ); (rename (List.map _ _ = List.map _ _) => meSᵥ); refine r_setG (by assumption) (by k_asm) nwSᵥ rwSᵥ (by rw [meSᵥ]; assumption) (by omega) (by omega) (by omega) (by omega) ?_; clear nwSᵥ; intro _ _ _ _ _ R'ᵥ me'ᵥ; (have me2ᵥ := me'ᵥ.trans meSᵥ); clear me'ᵥ meSᵥ rwSᵥ; (try simp only [Int.toNat_natCast] at R'ᵥ))); (try (revert R'ᵥ; intro _)); (try (revert me'ᵥ; intro _)); (try (revert me2ᵥ; intro _))
  k_with "setItem ref int int" => (((rename News _ _ _ _ => nwSᵥ); (rename RowsIn _ _ _ _ _ _ _ _ => rwSᵥ); (rename (List.map _ _ = List.map _ _) => meSᵥ); refine r_setT (by assumption) (by k_asm) nwSᵥ rwSᵥ (by rw [meSᵥ]; assumption) (by omega) (by omega) (by omega) (by omega) ?_; clear nwSᵥ; intro _ _ _ _ _ R'ᵥ me'ᵥ; (have me2ᵥ := me'ᵥ.trans meSᵥ); clear me'ᵥ meSᵥ rwSᵥ; (try simp only [Int.toNat_natCast] at R'ᵥ))); (try (revert R'ᵥ; intro _)); (try (revert me'ᵥ; intro _)); (try (revert me2ᵥ; intro _))
  k_with "call ref" => (((with_reducible show wpAny _ _ (call (Value.ref 51) _) _ _ _); refine callFn (fn_dpt _ _ _ _ _ _ (by assumption)) (by walk_at "fn_room") (by assumption) (by k_asm) (by k_asm) trivial ?_; intro _ _ _ R0ᵥᵥ _ _ G0ᵥ; clear G0ᵥ; obtain ⟨_, R0ᵥᵥ⟩ := R0ᵥᵥ; subst R0ᵥᵥ; (try k_sweep))); (try (revert G0ᵥ; intro _))
  k_with "Exists" => ((refine unstop ?_))
  trivial
theorem fn_exch (w : World) (mean : ExcName → Option Value) (mg mb : Str → Option Value) (gr tl : Addr) (n : Nat) (ga ta : Nat → Addr) (len : Nat → Nat) (pick : Int) (tp : Tok) (hp : 0 ≤ pick) (hn : 1 ≤ n ∧ n ≤ 8) (hlen : ∀ i, i < n → len i ≤ 8) (hmono : ∀ i, i + 1 < n → len (i + 1) ≤ len i) (Z : Apart n ga ta)
    (gv tv : Nat → List Value) (gn : Nat → List Str) (tn : Nat → List Int) (Sh : Shape n len gn tn) (more : List (Addr × Obj)) (R : RowsIn n ga ta gv tv gn tn more)
    (A : Around) (s : Shared) (Q E : Value → Shared → Prop) (gb : Heap) (rm : Room A 30) (B : Base w mean mg mb gb) (hk : Grows gb s.heap) (hz : gb.objs.size ≤ s.heap.objs.size) (ha : Above gb s.heap more) (hg : gb.IsList gr ((List.range n).map fun i => Value.ref (ga i)).toArray) (ht : gb.IsList tl ((List.range n).map fun i => Value.ref (ta i)).toArray)
    (ret : ∀ v h' tk, Grows gb h' → ExchOut gb n ga ta gn tn v h' → Q v { s with heap := h', toks := tk }) :
    wpG (model PySem.Challenge.rw_xo0029_01.row.prog w) A (call (.ref 290) [.ref gr, .ref tl, .int pick tp]) Q E s := by
  obtain ⟨hh, dp, fr, gd, un⟩ := A
  obtain ⟨g, gs, dr, tk, os⟩ := s
  obtain rfl : hh = none := rm.hh
  dsimp only at hk hz ha ret
  walk_at "gn_enter"
  rename_i Lx hx0 tkx0 F0 N0
  have N1 := News.lower F0 N0 hk ha
  have F1 := Fr.lower F0 hk hz
  rw [List.nil_append] at N1
  clear F0 N0
  have F2 := (show Fr gb _ _ (fun y => List.lookup y [(Str.ofString "pick", Value.int pick tp), (Str.ofString "told", Value.ref tl), (Str.ofString "grid", Value.ref gr)]) from F1)
  clear F1
  refine gExecsApp (pre := [_, _]) ?_
  k_steps
  (rename Fr _ _ _ _ => F3); (rename News _ _ _ _ => N3); (rename TupsIn _ _ _ => T3); (rename RowsIn _ _ _ _ _ _ _ _ => R3); (rename (∀ p ∈ _, ∀ q ∈ _, Prod.fst p ≠ Prod.fst q) => P3)
  (try dsimp only)
  refine gExecsCons (gWhile ?_)
  refine gIsTrue rfl (XI gb _ gr tl n ga ta len pick tp gn tn ⟨g, gs, dr, tk, os⟩) ?turn 9 ⟨_, _, _, _, _, _, gv, tv, gn, tn, 0, _, more, rfl, F3, ⟨rfl, rfl, rfl, rfl, rfl⟩, N3, T3, P3, R3, Sh, .refl, rfl⟩
  case turn =>
    clear F3 N3 T3 P3 R3 Sh
    refine fun k s' I => absQ fun Qa hQa => ?_
    obtain ⟨h, tk', m, D, ys, mp, gv, tv, g', t', mv, tm, more, rfl, F, NM, N, T, P, R, Sh, St, hk9⟩ := I
    rw [NM.frm] at F
    have hys : ys.length ≤ 1000 := by
      rw [T.1]
      have := firstP_len (t := t') (n - 1) fun a ha => by rw [Sh.lt (a + 1) (by omega)]; exact hlen (a + 1) (by omega)
      omega
    k_steps
    · (try dsimp only)
      refine hQa _ _ (onF (wpAny_execs_nil ?_))
      (try dsimp only)
      refine gAny ?_
      (rename List.isEmpty _ = true => hemp)
      have hnil : firstP t' (n - 1) = [] := List.eq_nil_of_length_eq_zero (by rw [← T.1, List.isEmpty_iff.mp hemp]; rfl)
      k_steps
      (rename News _ _ _ _ => N4)
      exact ret _ _ _ (Fr.keep (by assumption)) ⟨mv, _, gv, tv, g', t', more, rfl, Above.sub (News.above N4) (fun p hp => .tail _ (List.mem_append_right _ hp)), R, St, .inl hnil⟩
    rotate_left
    · (try dsimp only)
      refine hQa _ _ (onF (wpAny_execs_nil ?_))
      (try dsimp only)
      refine gAny ?_
      have hmv : 9 ≤ mv := by omega
      k_steps
      (rename News _ _ _ _ => N4)
      exact ret _ _ _ (Fr.keep (by assumption)) ⟨mv, _, gv, tv, g', t', more, rfl, Above.sub (News.above N4) (fun p hp => .tail _ (List.mem_append_right _ hp)), R, St, .inr hmv⟩
    clear ret
    refine hQa _ _ (onT (gAbs fun Qb hQb => ?_))
    clear hQa
    (rename List.isEmpty _ = false => hemp)
    have hmv : mv < 9 := by omega
    have hpos : 0 < (ys.length : Int) := by
      cases ys with
      | nil => cases hemp
      | cons y ys => simp only [List.length_cons]; omega
    refine gExecsApp (pre := [_]) ?_
    k_steps
    rename_i r c T9 t9 t8 hrc hT9 g1 g2 g3 F9 N9
    (try dsimp only at *)
    obtain ⟨hr1, hc8, hcr, hcr1, x, y, hx, hy, mx, my⟩ := cells_at Sh hlen hmono hn hrc
    have sw1 := (swap_of mx my).1
    have sw2 := (swap_of mx my).2.1
    have asxy := (swap_of mx my).2.2.1
    have szxy := (swap_of mx my).2.2.2
    have lx : x.length = 8 := (cell_of mx).sz
    have ly : y.length = 8 := (cell_of my).sz
    have e2 : 2 ≤ (x ++ y).cps.size := by omega
    have e3 : (x ++ y).cps.size ≤ 1000 := by omega
    have exy : ((enc (x ++ y)).size : Int) = 16 := by simp [enc, szxy]
    refine gExecsCons (gAssignName ?_ (by rfl))
    refine gCallName ?_
    k_steps
    refine gCallWithK B (by k_is) (by rfl) (gArgs rfl (gAny ?_))
    k_steps
    refine gArg rfl (gAny ?_)
    k_steps
    refine gSplicedNil ⟨Fr.keep (by assumption), ?_⟩
    refine callFnG (fn_bs16 w mean mg mb _ _ _ exy) (roomUp rm rfl (by dsimp only [Around.deeper]; omega) (by dsimp only [Around.deeper]; omega)) B (by k_asm) (by k_asm) trivial ?_
    rintro v' h' tk' ⟨t', rfl⟩ F' N' -
    have eb : swp (swp (Array.replicate 16 0) (enc (x ++ y)) 0 8 8) (enc (x ++ y)) 8 8 8 = both x y := rfl
    rw [eb]
    clear eb
    k_steps
    refine gAny ?_
    (try dsimp only)
    k_steps
    (rename Fr _ _ _ _ => F5); (rename News _ _ _ _ => N5); (rename RowsIn _ _ _ _ _ _ _ _ => R5)
    (rename (_ < _ ∧ _ < _ ∧ AllLt _ _) => l5)
    refine iter_invNL (ns := [0, 1]) (nn := 0) (fun i m nx => XJ n ga ta (both x y) _ _ _ _ _ D gr tl mv pick tm tp [(_, _), (_, _), (D, LCg.lst ys)] mp more x y g' _ i m nx) rfl (.head _) (.cons _ _ (.cons _ _ .nil)) F5 N5 ⟨gv, tv, more, rfl, ⟨⟨rfl, rfl, rfl, rfl, rfl⟩, rfl, rfl, rfl⟩, R5, rfl⟩ ?turn2 ?done2
    case done2 =>
      rintro m₁ nx h tk hmem ⟨gv, tv, more', rfl, N8, R6, me⟩ F6 N6
      rw [N8.frm] at F6
      have Sh2 : Shape n len (stG g' r c x y 2) (stT _ r c x y 2) := (Sh.move (rvs_mem mx).1 r c (dpt (rvs x))).move (rvs_mem my).1 (r + 1) c (dpt (rvs y))
      have St2 : Steps n gn tn (mv + 1) (stG g' r c x y 2) (stT _ r c x y 2) := Steps.step St hrc hx hy
      simp only [List.cons_append, List.nil_append] at N6
      clear R5 F5 N5 T P Sh St NM hT9 hrc hx hy mx my sw1 sw2 asxy szxy lx ly e2 e3 exy hmem l5 me hk ha
      k_steps
      refine hQb _ _ ?_
      (rename Fr _ _ _ _ => F7); (rename News _ _ _ _ => N7); (rename TupsIn _ _ _ => T7); (rename (∀ p ∈ _, ∀ q ∈ _, Prod.fst p ≠ Prod.fst q) => P7); (rename RowsIn _ _ _ _ _ _ _ _ => R7)
      exact ⟨k - 1, by omega, _, _, _, _, _, _, _, _, _, _, mv + 1, _, more', rfl, F7, ⟨rfl, rfl, rfl, rfl, rfl⟩, N7, T7, P7, R7, Sh2, St2, by omega⟩
    case turn2 =>
      rintro i nI tI m₁ nx h tk own hnI hadr hoff hmem ⟨gv, tv, more', rfl, N8, R6, me⟩ F6 N6
      obtain ⟨hi2, rfl⟩ : i < 2 ∧ nI = (i : Int) := by
        rcases i with _ | _ | i
        · exact ⟨by decide, (Option.some.inj hnI).symm⟩
        · exact ⟨by decide, (Option.some.inj hnI).symm⟩
        · cases hnI
      clear hnI F5 N5 R5 hadr
      rw [N8.frm] at F6
      have hap : ∀ p ∈ (_, _) :: (_, _) :: (D, LCg.lst ys) :: (mp ++ own), ∀ a ∈ more.map (·.1), p.1 ≠ a := ex_apart l5.2.2 hT9 P hoff
      have F7 := (show Fr gb Lx h (fun z => if z = Str.ofString "s" then some (.int (i : Int) tI) else if z = Str.ofString "both" then some (.bytes (both x y) t') else if z = Str.ofString "r" then some (.int (r : Int) t9) else if z = Str.ofString "c" then some (.int (c : Int) t8) else if z = Str.ofString "pairs" then some (.ref D) else if z = Str.ofString "moves" then some (.int mv tm) else if z = Str.ofString "pick" then some (.int pick tp) else if z = Str.ofString "told" then some (.ref tl) else if z = Str.ofString "grid" then some (.ref gr) else m₁ z) from F6)
      have N7 := (show News gb Lx h _ from ex_news N6)
      clear N6 F6
      generalize epre : (_, _) :: (_, _) :: (D, LCg.lst ys) :: (mp ++ own) = pre at hap N7
      obtain ⟨hri, z, mz, mrz, hsw, hgl, htl, eG, eT⟩ := st_facts Sh hr1 hcr hcr1 mx my sw1 sw2 hi2
      have hcz := cell_of mrz
      have hbz : (both x y).size = 16 := by unfold both; rw [swp_size, swp_size]; rfl
      generalize both x y = bxy at *
      generalize stG g' _ _ x y i = gc at *
      generalize stT _ _ _ x y i = tc at *
      refine wpAny_mono (Q := TurnX gb Lx ⟨h, gs, dr, tk, os⟩ n ga ta bxy t' r c t9 t8 D gr tl mv pick tm tp pre more (upd gc (r + i) c (rvs z)) (upd tc (r + i) c (dpt (rvs z)))) ?_ (fun f s₂ ht => ?_) (fun _ _ x => x)
      · clear hk ha hx hy mx my sw1 sw2 eG eT St T P Sh NM hk9 hys hemp hmv hpos asxy szxy lx ly e2 e3 exy hr1 hcr hcr1 hrc hT9 l5 hoff hmem epre mz
        refine absQ fun Qc hQc => ?_
        k_steps
        refine hQc _ _ ?_
        (rename Fr _ _ _ _ => F8); (rename News _ _ _ _ => N88); (rename RowsIn _ _ _ _ _ _ _ _ => R8); (rename (List.map _ _ = List.map _ _) => me8)
        exact ⟨rfl, _, _, _, _, _, _, rfl, F8, N88, ⟨⟨rfl, rfl, rfl, rfl, rfl⟩, rfl, rfl, rfl⟩, R8, me8⟩
      · obtain ⟨rfl, h9, tk9, m9, gv9, tv9, more9, rfl, F9, N99, N89, R9, me9⟩ := ht
        subst epre
        exact ⟨h9, tk9, m9, _, _, rfl, F9, N99, ex_sub, ex_own, by simp [me9], .head _, ⟨gv9, tv9, more9, rfl, N89, by rw [eG, eT]; exact R9, me9⟩⟩
end
section -- L2
theorem words_L2_0 : True := by
  k_with_none
  w_top off
  trivial
set_option maxHeartbeats 400000
open PyProof.Rows.LCg
section
variable {prog : Program} {w : World} {A : Around} {E : Value → Shared → Prop} {s : Shared} {h₀ : Heap} {L : Addr} {m : Str → Option Value} {env : Env}
theorem step_st {I : Addr} {a c : Int} {n : Nat} : ∀ i (h h' : Heap) (o : Obj) (nw : List (Addr × Obj)), IsRangeIter h I (a + (i : Nat) * c) ((n : Int) - (i : Nat)) c → h.get? I = some o → h'.get? I = some o → (∀ b o, h₀.get? b = some o → h'.get? b = some o) → News h₀ L h' nw → True → IsRangeIter h' I (a + (i : Nat) * c) ((n : Int) - (i : Nat)) c :=
  fun i h h' o nw st e e' _ _ _ => by
    have z : h.get? I = some _ := st
    show h'.get? I = some _
    rw [e', ← e]; exact z
/-- where the items come from: a range; what is left to bear -/
inductive SrcR (A : Around) (h₀ : Heap) (L : Addr) (m : Str → Option Value) (Re : Shared → Nat → Int → Int → List (Addr × Obj) → Prop) (xv : Value) (s₁ : Shared) : Prop
  | mk (r : Addr) (a b c : Int) (t u v : Tok) (n : Nat) (news : List (Addr × Obj)) (e1 : xv = .ref r) (hh : A.handled = none) (F : Fr h₀ L s₁.heap m) (N : News h₀ L s₁.heap news) (hr : IsRange s₁.heap r a b c t u v) (hsm : Builtin.Range.small a b c = true) (hn : Builtin.Range.rangeSize a b c = ((n : Nat) : Int)) (hsz : n ≤ sizeLine) (R : ∀ g, Re { s₁ with heap := g } n a c news)
/-- a comprehension over a range with a step -/
theorem ListComp_R {elt iter : Expr} {x : Str} {px : Pos} {scope : Scope} {cl : List (Str × Addr)} {pos : Pos} {Q : Value → Shared → Prop} (_F₀ : Fr h₀ L s.heap m)
    (hclos : closureFor scope env = pure cl) (hcell : ∀ y ∈ scope.names, y.2 ≠ .cell) (hkind : scope.kind = .function)
    (hnames : ∀ y ∈ scope.names, y.2 = .local → scope.names.lookup y.1 = some .local) (hx : scope.names.lookup x = some .local)
    (h : wpAny (model prog w) A (eval iter env) (SrcR A h₀ L m fun s₂ n a c news => CompRest prog w A h₀ L m env elt x scope cl s₂ (fun _ => True) (fun i v => i < n ∧ ∃ t, v = .int (a + i * c) t) (FinE h₀ L m s₂ Q) n 0 [] news) E s)
    (hs : ∀ x, foldedSetIterable iter env x = pure x) :
    wpAny (model prog w) A (eval (.ListComp elt [⟨.Name x px, iter, [], 0⟩] scope pos) env) Q E s := by
  rw [eval_ListComp]
  refine wpAny_comprehension_free (use := none) rfl hs hclos hkind hnames (wpAny_mono h (fun xv s₁ h₁ => ?_) fun _ _ e => e)
  obtain ⟨r, a, b, c, t, u, v, n, news, rfl, hh, F, N, hr, hsm, hn, hsz, R⟩ := h₁
  refine wpAny_pyIter_range hr hsm ?_
  refine block_U (Walks.range hh s₁.heap.objs.size a c n).bound hsz (fun i h st => ⟨_, st⟩) step_st hcell hkind hx (by show IsRangeIter _ _ _ _ _; rw [hn]; simpa using Heap.get?_push_size _ rfl) (fun b hb => ?_)
    (F.keeps fun _ _ e => Heap.get?_push_of_some _ e) (N.grown fun _ _ e => Heap.get?_push_of_some _ e) (Nat.ne_of_lt F.ns.lt) (next_is_new F) (fun p hp => Nat.ne_of_lt (Heap.lt_size (N p hp).1)) trivial (R _) ?_
  · rw [List.mem_singleton.mp hb]
    show s₁.heap.objs.size < (s₁.heap.push _).objs.size
    rw [Heap.size_push]; exact Nat.lt_succ_self _
  · intro D C h tk m' ys news' F' N' o1 hn hC₀ hD₀ hCL hDL hCD offC fin
    refine ⟨m', hn, fun h'' hs'' => fin D h'' tk (F'.change hs'' hCL hC₀) (fun p hp => ?_) o1⟩
    exact ⟨hs''.extBut _ _ (allC (P := fun q : Addr × Obj => q.1 ≠ C) (Ne.symm hCD) offC p hp) (N' p hp).1, (N' p hp).2⟩
open PyProof.Rows.LCt
theorem CRestT.ind {ct elt : Expr} {x : Str} {scope : Scope} {cl : List (Str × Addr)} {S : List (Addr × Obj) → Prop} {P : Nat → Value → Prop} {Fin : List Value → List (Addr × Obj) → Prop} (n : Nat) (Inv : Nat → List Value → List (Addr × Obj) → Prop) (fin : ∀ ys news, Inv n ys news → Fin ys news)
    (step : ∀ i ys news, i < n → Inv i ys news → ∀ v I oI C oC D m₂ h tk (E' : Value → Shared → Prop), P i v → NsObj oC m₂ → m₂ x = some v → Fr h₀ L h m → News h₀ L h ((I, oI) :: (C, oC) :: (D, LCg.lst ys) :: news) → Off3 I C D news → ((@Ne Nat I C) ∧ (@Ne Nat I D) ∧ (@Ne Nat C D)) →
      wpAny (model prog w) A (isTrue ct (compEnvC scope cl C env) (eval ct (compEnvC scope cl C env))) (fun ok s' => if ok = true then
        wpAny (model prog w) A (eval elt (compEnvC scope cl C env)) (CompEnd h₀ L m { s with heap := h, toks := tk } I oI C oC D (LCg.lst ys) S (fun y news' => Inv (i + 1) (ys ++ [y]) news')) E' s'
        else CompEnd h₀ L m { s with heap := h, toks := tk } I oI C oC D (LCg.lst ys) S (fun _ news' => Inv (i + 1) ys news') Value.none s') E' { s with heap := h, toks := tk }) :
    ∀ (k i : Nat) (ys : List Value) (news : List (Addr × Obj)), i + k = n → Inv i ys news → CompRestT prog w A h₀ L m env ct elt x scope cl s S P Fin k i ys news
  | 0, i, ys, news, e, h => by
    obtain rfl : i = n := by omega
    exact fin _ _ h
  | k + 1, i, ys, news, e, h => by
    intro v I oI C oC D m₂ h' tk E' hP hoC hx F N off ne
    refine wpAny_mono (step i ys news (by omega) h v I oI C oC D m₂ h' tk E' hP hoC hx F N off ne) (fun ok s₁ h₁ => ?_) fun _ _ x => x
    cases ok with
    | true =>
      rw [if_pos rfl] at h₁ ⊢
      exact wpAny_mono h₁ (fun z s₂ h₂ => CompEnd.mono h₂ fun y nw hi => CRestT.ind n Inv fin step k (i + 1) _ nw (by omega) hi) fun _ _ x => x
    | false =>
      rw [if_neg (by decide)] at h₁ ⊢
      exact CompEnd.mono h₁ fun y nw hi => CRestT.ind n Inv fin step k (i + 1) _ nw (by omega) hi
theorem CRestT.indF {ct elt : Expr} {x : Str} {scope : Scope} {cl : List (Str × Addr)} {S : List (Addr × Obj) → Prop} {P : Nat → Value → Prop} {Fin : List Value → List (Addr × Obj) → Prop} {nw₀ : List (Addr × Obj)} {n : Nat} (Inv : Nat → List Value → Prop) (fin : ∀ ys, Inv n ys → Fin ys nw₀)
    (step : ∀ i ys, i < n → Inv i ys → ∀ v I oI C oC D m₂ h tk (E' : Value → Shared → Prop), P i v → NsObj oC m₂ → m₂ x = some v → Fr h₀ L h m → News h₀ L h ((I, oI) :: (C, oC) :: (D, LCg.lst ys) :: nw₀) → Off3 I C D nw₀ → ((@Ne Nat I C) ∧ (@Ne Nat I D) ∧ (@Ne Nat C D)) →
      wpAny (model prog w) A (isTrue ct (compEnvC scope cl C env) (eval ct (compEnvC scope cl C env))) (fun ok s' => if ok = true then
        wpAny (model prog w) A (eval elt (compEnvC scope cl C env)) (CompEnd h₀ L m { s with heap := h, toks := tk } I oI C oC D (LCg.lst ys) S (fun y news' => news' = nw₀ ∧ Inv (i + 1) (ys ++ [y]))) E' s'
        else CompEnd h₀ L m { s with heap := h, toks := tk } I oI C oC D (LCg.lst ys) S (fun _ news' => news' = nw₀ ∧ Inv (i + 1) ys) Value.none s') E' { s with heap := h, toks := tk })
    (h0 : Inv 0 []) : CompRestT prog w A h₀ L m env ct elt x scope cl s S P Fin n 0 [] nw₀ :=
  CRestT.ind n (fun i ys nw => nw = nw₀ ∧ Inv i ys) (fun ys nw h => h.1.symm ▸ fin ys h.2) (fun i ys nw hi h => by obtain ⟨rfl, h⟩ := h; exact step i ys hi h) n 0 [] nw₀ (Nat.zero_add _) ⟨rfl, h0⟩
/-- a comprehension with a test over a range with a step -/
theorem ListComp_RT {ct elt iter : Expr} {x : Str} {px : Pos} {scope : Scope} {cl : List (Str × Addr)} {pos : Pos} {Q : Value → Shared → Prop} (_F₀ : Fr h₀ L s.heap m)
    (hclos : closureFor scope env = pure cl) (hcell : ∀ y ∈ scope.names, y.2 ≠ .cell) (hkind : scope.kind = .function)
    (hnames : ∀ y ∈ scope.names, y.2 = .local → scope.names.lookup y.1 = some .local) (hx : scope.names.lookup x = some .local)
    (h : wpAny (model prog w) A (eval iter env) (SrcR A h₀ L m fun s₂ n a c news => CompRestT prog w A h₀ L m env ct elt x scope cl s₂ (fun _ => True) (fun i v => i < n ∧ ∃ t, v = .int (a + i * c) t) (FinE h₀ L m s₂ Q) n 0 [] news) E s)
    (hs : ∀ x, foldedSetIterable iter env x = pure x) :
    wpAny (model prog w) A (eval (.ListComp elt [⟨.Name x px, iter, [ct], 0⟩] scope pos) env) Q E s := by
  rw [eval_ListComp]
  refine wpAny_comprehension_free (use := none) rfl hs hclos hkind hnames (wpAny_mono h (fun xv s₁ h₁ => ?_) fun _ _ e => e)
  obtain ⟨r, a, b, c, t, u, v, n, news, rfl, hh, F, N, hr, hsm, hn, hsz, R⟩ := h₁
  refine wpAny_pyIter_range hr hsm ?_
  refine block_T (Walks.range hh s₁.heap.objs.size a c n).bound hsz (fun i h st => ⟨_, st⟩) step_st hcell hkind hx (by show IsRangeIter _ _ _ _ _; rw [hn]; simpa using Heap.get?_push_size _ rfl) (fun b hb => ?_)
    (F.keeps fun _ _ e => Heap.get?_push_of_some _ e) (N.grown fun _ _ e => Heap.get?_push_of_some _ e) (Nat.ne_of_lt F.ns.lt) (next_is_new F) (fun p hp => Nat.ne_of_lt (Heap.lt_size (N p hp).1)) trivial (R _) ?_
  · rw [List.mem_singleton.mp hb]
    show s₁.heap.objs.size < (s₁.heap.push _).objs.size
    rw [Heap.size_push]; exact Nat.lt_succ_self _
  · intro D C h tk m' ys news' F' N' o1 hn hC₀ hD₀ hCL hDL hCD offC fin
    refine ⟨m', hn, fun h'' hs'' => fin D h'' tk (F'.change hs'' hCL hC₀) (fun p hp => ?_) o1⟩
    exact ⟨hs''.extBut _ _ (allC (P := fun q : Addr × Obj => q.1 ≠ C) (Ne.symm hCD) offC p hp) (N' p hp).1, (N' p hp).2⟩
end
theorem size8 {m : Nat} (hm : m = 2 ∨ m = 3 ∨ m = 4) : Builtin.Range.small 0 8 (m : Int) = true ∧ Builtin.Range.rangeSize 0 8 (m : Int) = ((rowsN m : Nat) : Int) := by
  rcases hm with rfl | rfl | rfl <;> exact ⟨by decide +kernel, by decide +kernel⟩
section
variable {prog : Program} {w : World} {A : Around} {E : Value → Shared → Prop} {s : Shared} {h₀ : Heap} {L : Addr} {m : Str → Option Value} {news : List (Addr × Obj)} {Q : Value → Shared → Prop}
theorem m_slice2 {value slice : Expr} {l : Addr} {vs : List Value} {vl vu : Value} {lo hi : Option Int} (F : Fr h₀ L s.heap m) (N : News h₀ L s.heap news) (hl : s.heap.IsList l vs.toArray) (pl : IsPart vl lo) (pu : IsPart vu hi) (ms : List Int) (hM : IntsAre (slicePick vs.toArray lo hi none).toList ms)
    (h : ∀ D ws h', Fr h₀ L h' m → News h₀ L h' ((D, W.listOf ws.toArray 0) :: news) → IntsAre ws ms → Q (.ref D) { s with heap := h' })
    (hs : subscripted slice false (.ref l) (.ref s.heap.objs.size) = operate [.ref s.heap.objs.size, .ref l] (getItem (.ref l) (.ref s.heap.objs.size))) (ht : ∀ r, letTemporaryGo value (.ref l) r = pure ()) (hz : vs.toArray.size ≤ sizeLine) :
    wpAny (model prog w) A (subscriptTail value slice (.ref l) (.ref s.heap.objs.size)) Q E { s with heap := s.heap.push { cls := .type "slice", data := .fields #[vl, vu, .none] } } := by
  refine slice_list F N hl pl pu (fun h' F' N' => h _ (slicePick vs.toArray lo hi none).toList h' F' ?_ hM) hs ht hz
  rw [Array.toArray_toList]
  exact N'
end
end
section -- B0
set_option maxHeartbeats 400000
theorem NewL.add {h₀ h h' : Heap} {L : Addr} {m : Str → Option Value} {news : List (Addr × Obj)} {v : Value} {ys : List Value} (F : Fr h₀ L h m) (N₀ : News h₀ L h news) (N : News h₀ L h' news) (x : NewL h v h' ys) : ∃ D n, v = .ref D ∧ News h₀ L h' ((D, srcO ys.toArray n) :: news) ∧ ∀ q ∈ news, q.1 ≠ D := by
  obtain ⟨D, n, rfl, e1, e2⟩ := x
  refine ⟨D, n, rfl, News.addNew F N (ns := [(D, srcO ys.toArray n)]) (fun p hp => ?_), fun q hq e => ?_⟩
  · rw [List.mem_singleton.mp hp]
    exact ⟨e2, e1⟩
  · have := (N₀ q hq).1
    rw [e, e1] at this
    cases this
section
variable {w : World} {mean : ExcName → Option Value} {mg mb : Str → Option Value} {A : Around} {E : Value → Shared → Prop} {s : Shared} {h₀ : Heap} {L : Addr} {m : Str → Option Value} {news : List (Addr × Obj)} {d : Nat} {f : Addr} {vs : List Value} {P : Heap → Prop} {Q : Value → Shared → Prop}
/-- a call that gives a new list -/
theorem callL0 {ys : List Value} (hf : Fn w mean mg mb d f vs P (fun h v h' => NewL h v h' ys)) (r : Room A d) (B : Base w mean mg mb h₀) (F : Fr h₀ L s.heap m) (N : News h₀ L s.heap news) (hp : P s.heap)
    (k : ∀ D n h' tk, Fr h₀ L h' m → News h₀ L h' ((D, srcO ys.toArray n) :: news) → (∀ q ∈ news, q.1 ≠ D) → Q (.ref D) { s with heap := h', toks := tk }) : wpAny (model PySem.Challenge.rw_xo0029_01.row.prog w) A (call (.ref f) vs) Q E s :=
  callFn hf r B F N hp fun v h' tk x F' N' _ => by
    obtain ⟨D, n, rfl, N2, ap⟩ := NewL.add F N N' x
    exact k D n h' tk F' N2 ap
theorem callL {R : List Value → Prop} (hf : Fn w mean mg mb d f vs P (fun h v h' => ∃ ys, NewL h v h' ys ∧ R ys)) (r : Room A d) (B : Base w mean mg mb h₀) (F : Fr h₀ L s.heap m) (N : News h₀ L s.heap news) (hp : P s.heap)
    (k : ∀ D n ys h' tk, R ys → Fr h₀ L h' m → News h₀ L h' ((D, srcO ys.toArray n) :: news) → (∀ q ∈ news, q.1 ≠ D) → Q (.ref D) { s with heap := h', toks := tk }) : wpAny (model PySem.Challenge.rw_xo0029_01.row.prog w) A (call (.ref f) vs) Q E s :=
  callFn hf r B F N hp fun v h' tk x F' N' _ => by
    obtain ⟨ys, x, hR⟩ := x
    obtain ⟨D, n, rfl, N2, ap⟩ := NewL.add F N N' x
    exact k D n ys h' tk hR F' N2 ap
theorem callLG {R : List Value → Prop} (hf : FnG w mean mg mb d f vs P (fun h v h' => ∃ ys, NewL h v h' ys ∧ R ys)) (r : Room A d) (B : Base w mean mg mb h₀) (F : Fr h₀ L s.heap m) (N : News h₀ L s.heap news) (hp : P s.heap)
    (k : ∀ D n ys h' tk, R ys → Fr h₀ L h' m → News h₀ L h' ((D, srcO ys.toArray n) :: news) → (∀ q ∈ news, q.1 ≠ D) → Q (.ref D) { s with heap := h', toks := tk }) : wpG (model PySem.Challenge.rw_xo0029_01.row.prog w) A (call (.ref f) vs) Q E s :=
  callFnG hf r B F N hp fun v h' tk x F' N' _ => by
    obtain ⟨ys, x, hR⟩ := x
    obtain ⟨D, n, rfl, N2, ap⟩ := NewL.add F N N' x
    exact k D n ys h' tk hR F' N2 ap
end
/-- a store into a cell of the frame -/
theorem setCell {prog : Program} {w : World} {A : Around} {E : Value → Shared → Prop} {s : Shared} {h₀ : Heap} {L : Addr} {m : Str → Option Value} {env : Env} {x : Str} {c : Addr} {oc : Obj} {v₀ : Option Value} {v : Value} {news : List (Addr × Obj)} {Q : Unit → Shared → Prop}
    (F : Fr h₀ L s.heap m) (N : News h₀ L s.heap news) (hm : (c, oc) ∈ news) (hv : oc.data = .cell v₀) (rest : List (Addr × Obj)) (hr : ∀ p ∈ rest, p ∈ news ∧ ((∀ u, p.2.data ≠ .cell u) ∨ p.1 ≠ c)) (hk : env.scope.kind = .function) (hl : env.kindOf x = some .cell) (hc : env.cells.lookup x = some c)
    (h : ∀ h' oc', oc'.data = .cell (some v) → Fr h₀ L h' m → News h₀ L h' ((c, oc') :: rest) → Q () { s with heap := h' }) : wpAny (model prog w) A (storeName env x v) Q E s := by
  refine wpAny_storeName_cell hk hl hc ⟨oc, (N _ hm).1, hv⟩ fun h' hc' sb => ?_
  obtain ⟨oc', e', hv'⟩ := hc'
  have k' : ∀ b o, b ≠ c → s.heap.get? b = some o → h'.get? b = some o := fun b o hb e => sb.extBut b o hb e
  obtain ⟨F', N'⟩ := stepW F N hm k' e'
  refine h h' oc' hv' F' (News.fewer N' fun p hp => ?_)
  rcases List.mem_cons.mp hp with rfl | hp
  · exact swapAt_mem hm
  · obtain ⟨h1, h2⟩ := hr p hp
    refine swapAt_ne h1 ?_
    rcases h2 with h2 | h2
    · intro e
      have g1 := (N _ h1).1
      rw [e, (N _ hm).1] at g1
      exact h2 v₀ (by rw [← Option.some.inj g1]; exact hv)
    · exact h2
/-- the objects that stay where a cell is stored -/
theorem kpD {news : List (Addr × Obj)} {c : Addr} {p : Addr × Obj} {l : List (Addr × Obj)} (hm : p ∈ news) (hd : ∀ u, p.2.data ≠ .cell u) (t : ∀ q, q ∈ l → q ∈ news ∧ ((∀ u, q.2.data ≠ .cell u) ∨ q.1 ≠ c)) : ∀ q, q ∈ p :: l → q ∈ news ∧ ((∀ u, q.2.data ≠ .cell u) ∨ q.1 ≠ c) := allC ⟨hm, .inl hd⟩ t
theorem kpN {news : List (Addr × Obj)} {c : Addr} {p : Addr × Obj} {l : List (Addr × Obj)} (hm : p ∈ news) (hd : p.1 ≠ c) (t : ∀ q, q ∈ l → q ∈ news ∧ ((∀ u, q.2.data ≠ .cell u) ∨ q.1 ≠ c)) : ∀ q, q ∈ p :: l → q ∈ news ∧ ((∀ u, q.2.data ≠ .cell u) ∨ q.1 ≠ c) := allC ⟨hm, .inr hd⟩ t
theorem src_nc {a : Array Value} {n : Nat} (u : Option Value) : (srcO a n).data ≠ .cell u := fun h => nomatch h
theorem lst_nc {a : List Value} (u : Option Value) : (LCg.lst a).data ≠ .cell u := fun h => nomatch h
theorem tab_nc {a : Array Value} (u : Option Value) : (tabObj a).data ≠ .cell u := fun h => nomatch h
theorem src_nf {a : Array Value} {n : Nat} (u : Array Value) : (srcO a n).data ≠ .fields u := fun h => nomatch h
theorem cell_nf {o : Obj} {v : Option Value} (h : o.data = .cell v) (u : Array Value) : o.data ≠ .fields u := fun e => by rw [h] at e; cases e
theorem up1 (L : Addr) : L + 1 ≠ L + 1 + 1 := Nat.ne_of_lt (Nat.lt_succ_self _)
theorem up2 (L : Addr) : L + 1 ≠ L + 1 + 1 + 1 := Nat.ne_of_lt (Nat.lt_of_lt_of_le (Nat.lt_succ_self _) (Nat.le_succ _))
theorem up3 (L : Addr) : L + 1 ≠ L + 1 + 1 + 1 + 1 := Nat.ne_of_lt (Nat.lt_of_lt_of_le (Nat.lt_succ_self _) (Nat.le_add_right _ 2))
noncomputable def bodyAt (w : World) : List Stmt := match (hd.heap_1 w.params).lookup 305 with
  | some ⟨_, _, .func fd, _⟩ => (match fd.body with | .stmts l => l | _ => [])
  | _ => []
noncomputable def envAt (w : World) (L : Addr) : Env := match (hd.heap_1 w.params).lookup 305 with
  | some ⟨_, _, .func fd, _⟩ => envOfC (Str.ofString "law") fd.scope L 305 (.ref 304)
  | _ => envOfC (Str.ofString "law") default L 305 (.ref 304)
section
variable {w : World} {A : Around} {Q : Flow → Shared → Prop} {E : Value → Shared → Prop} {s : Shared} {L : Addr} {rest body : List Stmt} {oc : Value} {od : Option Addr} {osl : Array (Option Value)} {name qual : Str} {params : Arguments} {scope : Scope} {dV kV doc pm cdv ct : Value} {an : Option Addr} {M : PySem.Model}
theorem segOpen (k : Nat) (ho : (hd.heap_1 w.params).lookup 305 = some ⟨oc, od, .func (fnOf name qual params body scope dV kV doc pm an cdv ct), osl⟩) (hd : rest = body.drop k)
    (h : wpG M A (execs rest (envOfC (Str.ofString "law") scope L 305 (.ref 304))) Q E s) : wpG M A (execs ((bodyAt w).drop k) (envAt w L)) Q E s := by
  unfold bodyAt envAt
  rw [ho]
  subst hd
  exact h
theorem segShut (k : Nat) (ho : (hd.heap_1 w.params).lookup 305 = some ⟨oc, od, .func (fnOf name qual params body scope dV kV doc pm an cdv ct), osl⟩) (hd : rest = body.drop k)
    (h : wpG M A (execs ((bodyAt w).drop k) (envAt w L)) Q E s) : wpG M A (execs rest (envOfC (Str.ofString "law") scope L 305 (.ref 304))) Q E s := by
  unfold bodyAt envAt at h
  rw [ho] at h
  subst hd
  exact h
end
/-- the row's length -/
noncomputable def manyOf (ds : List Int) : Nat := (2 + (ds.getD 8 0).fmod 3).toNat
noncomputable def leftOf (ds : List Int) : Nat := (((ds.getD 8 0).fdiv 3).fmod 9).toNat
theorem many_cast (ds : List Int) : 2 + (ds.getD 8 0).fmod 3 = (manyOf ds : Int) := by
  unfold manyOf
  exact (Int.toNat_of_nonneg (Int.add_nonneg (by decide) (Int.fmod_nonneg_of_pos _ (by decide)))).symm
theorem many_in (ds : List Int) : manyOf ds = 2 ∨ manyOf ds = 3 ∨ manyOf ds = 4 := by
  unfold manyOf
  rcases many_of (ds.getD 8 0) with e | e | e <;> rw [e]
  · exact .inl rfl
  · exact .inr (.inl rfl)
  · exact .inr (.inr rfl)
theorem many_bd (ds : List Int) : 2 ≤ manyOf ds ∧ manyOf ds ≤ 4 := two4 (many_in ds)
theorem left_cast (ds : List Int) : ((ds.getD 8 0).fdiv 3).fmod 9 = (leftOf ds : Int) ∧ leftOf ds ≤ 8 := by
  unfold leftOf
  rw [Int.fmod_eq_emod_of_nonneg _ (by decide)]
  have h0 := Int.emod_nonneg ((ds.getD 8 0).fdiv 3) (by decide : (9 : Int) ≠ 0)
  exact ⟨(Int.toNat_of_nonneg h0).symm, Int.toNat_le.mpr (Int.lt_add_one_iff.mp (Int.emod_lt_of_pos _ (by decide)))⟩
/-- the eight cells that the numbers draw -/
noncomputable def cellsOf (ds : List Int) : List Str := (List.range 8).map fun k => cellOf (ds.getD k 0)
theorem cellsOf_in (ds : List Int) : ∀ x ∈ cellsOf ds, x ∈ cellsL := fun x hx => by
  obtain ⟨k, _, rfl⟩ := List.mem_map.mp hx
  exact cell_in _
theorem cellsOf_n (ds : List Int) : (cellsOf ds).length = 8 := by simp [cellsOf]
theorem signsOf (ds : List Int) : ((List.range 8).map fun k => sgn (ds.getD k 0)) = (cellsOf ds).map dpt := by
  unfold cellsOf
  rw [List.map_map]
  exact List.map_congr_left fun k _ => (cell_dpt _).symm
theorem inList {h₀ h : Heap} {L D : Addr} {vs : List Value} {n : Nat} {news : List (Addr × Obj)} (N : News h₀ L h news) (hm : (D, srcO vs.toArray n) ∈ news) : h.IsList D vs.toArray := ⟨_, (N _ hm).1, rfl, _, rfl⟩
/-- two members of a ledger that are unlike stand apart -/
theorem apart2 {h₀ h : Heap} {L : Addr} {news : List (Addr × Obj)} (N : News h₀ L h news) {a b : Addr} {o o' : Obj} (h1 : (a, o) ∈ news) (h2 : (b, o') ∈ news) (hne : o ≠ o') : a ≠ b := fun e => by
  subst e
  have g1 := (N _ h1).1
  rw [(N _ h2).1] at g1
  exact hne (Option.some.inj g1).symm
theorem notTab {h₀ h : Heap} {L : Addr} {more : List (Addr × Obj)} (N : News h₀ L h more) {p1 p2 : Array Value} (h1 : ((183 : Addr), tabObj p1) ∈ more) (h2 : ((190 : Addr), tabObj p2) ∈ more) {q : Addr × Obj} (hq : q ∈ more) (hd : ∀ ps, q.2.data ≠ .fields ps) : q.1 ∉ [(183 : Addr), 190] := fun hm => by
  simp only [List.mem_cons, List.not_mem_nil, or_false] at hm
  rcases hm with e | e
  · have g := (N _ hq).1
    rw [e, (N _ h1).1] at g
    exact hd p1 (by rw [← Option.some.inj g])
  · have g := (N _ hq).1
    rw [e, (N _ h2).1] at g
    exact hd p2 (by rw [← Option.some.inj g])
theorem IntsAre.append {vs us : List Value} {ns ms : List Int} (h : IntsAre vs ns) (h' : IntsAre us ms) : IntsAre (vs ++ us) (ns ++ ms) := by
  induction h with
  | nil => exact h'
  | cons a t _ ih => exact .cons a t ih
theorem StrsAre.append {vs us : List Value} {ns ms : List Str} (h : StrsAre vs ns) (h' : StrsAre us ms) : StrsAre (vs ++ us) (ns ++ ms) := by
  induction h with
  | nil => exact h'
  | cons a t _ ih => exact .cons a t ih
/-- rows laid one behind the other -/
theorem flat_ints : ∀ (ts : List (Addr × List Value)) (f : Nat → List Int), (∀ j t, ts[j]? = some t → IntsAre t.2 (f j)) → IntsAre (ts.flatMap (·.2)) ((List.range ts.length).flatMap f)
  | [], _, _ => .nil
  | t :: ts, f, h => by
    rw [List.length_cons, List.range_succ_eq_map, List.flatMap_cons, List.flatMap_cons, List.flatMap_map]
    exact IntsAre.append (h 0 t rfl) (flat_ints ts (fun j => f (j + 1)) fun j t hj => h (j + 1) t hj)
theorem flat_strs : ∀ (ts : List (Addr × List Value)) (f : Nat → List Str), (∀ j t, ts[j]? = some t → StrsAre t.2 (f j)) → StrsAre (ts.flatMap (·.2)) ((List.range ts.length).flatMap f)
  | [], _, _ => .nil
  | t :: ts, f, h => by
    rw [List.length_cons, List.range_succ_eq_map, List.flatMap_cons, List.flatMap_cons, List.flatMap_map]
    exact StrsAre.append (h 0 t rfl) (flat_strs ts (fun j => f (j + 1)) fun j t hj => h (j + 1) t hj)
theorem rowS_flat {α : Type} {m : Nat} (hm : m = 2 ∨ m = 3 ∨ m = 4) {xs : List α} (h : xs.length = 8) : (List.range (rowsN m)).flatMap (rowS m xs) = xs := by
  refine list8 (P := fun xs => (List.range (rowsN m)).flatMap (rowS m xs) = xs) (fun x0 x1 x2 x3 x4 x5 x6 x7 => ?_) xs h
  rcases hm with rfl | rfl | rfl <;> rfl
theorem rowS_map {α β : Type} {m i : Nat} {xs : List α} (f : α → β) : (rowS m xs i).map f = rowS m (xs.map f) i := by
  unfold rowS
  rw [List.map_take, List.map_drop]
theorem rowS_le {α : Type} {m i : Nat} {xs : List α} : (rowS m xs i).length ≤ m := List.length_take_le _ _
/-- the rows' lengths -/
noncomputable def sizesOf (m : Nat) : List Int := (List.range (rowsN m)).map fun i => ((rowS m (List.range 8) i).length : Int)
theorem rowS_len {α : Type} {m i : Nat} {xs : List α} (h : xs.length = 8) : (rowS m xs i).length = (rowS m (List.range 8) i).length := by
  unfold rowS
  simp [h]
theorem inLst {h₀ h : Heap} {L D : Addr} {vs : List Value} {news : List (Addr × Obj)} (N : News h₀ L h news) (hm : (D, LCg.lst vs) ∈ news) : h.IsList D vs.toArray := ⟨_, (N _ hm).1, rfl, _, rfl⟩
noncomputable def rowN (m i : Nat) : Nat := (rowS m (List.range 8) i).length
theorem rowN_le {m i : Nat} : rowN m i ≤ m := rowS_le
theorem rowN_is {α : Type} {m i : Nat} {xs : List α} (h : xs.length = 8) : (rowS m xs i).length = rowN m i := rowS_len h
theorem IntsAre.size {vs : List Value} {ns : List Int} (h : IntsAre vs ns) : vs.length = ns.length := by
  induction h with
  | nil => rfl
  | cons a t _ ih => rw [List.length_cons, List.length_cons, ih]
theorem slice_len {m i : Nat} (hm : m = 2 ∨ m = 3 ∨ m = 4) (hi : i < rowsN m) {ss : List Value} {ns : List Int} (hs : IntsAre ss ns) (hn : ns.length = 8) : (slicePick ss.toArray (some (0 + (i : Int) * (m : Int))) (some (0 + (i : Int) * (m : Int) + (m : Int))) none).size = rowN m i := by
  have h := IntsAre.size (slice_ints_plain hs (0 + (i : Int) * (m : Int)) (0 + (i : Int) * (m : Int) + (m : Int)))
  rw [List.length_take, List.length_drop, hn, Array.length_toList] at h
  rw [h]
  have hr := rows8_n hm
  have hi4 := nat4 (Nat.lt_of_lt_of_le hi hr.1)
  rcases hm with rfl | rfl | rfl <;> rcases hi4 with rfl | rfl | rfl | rfl <;> first | decide | (exact absurd hi (by decide))
theorem turn_is (ds : List Int) : turnS (cellsOf ds) = (((cellsOf ds).map dpt).map (- ·)).reverse := by
  unfold turnS
  rw [List.map_map]
  rfl
/-- the texts of the first test, and of the second -/
noncomputable def fstL (S : List Int) (i : Nat) : List Str := ((List.range i).filter fun k => decide (S.getD k 0 < 0)).map fun k => pageR [(S.take k).count 1]
noncomputable def sndL (S : List Int) (i : Nat) : List Str := ((List.range i).filter fun k => decide (0 < S.getD (7 - k) 0)).map fun k => pageR [(S.drop (7 - k)).count (-1)]
theorem lines_ok : (List.range 9).all (fun n => Txt.mul (Str.ofString " ") (n : Int) ++ Str.ofString "|\n" == pageR [n]) = true := by decide +kernel
theorem line_is {n : Nat} (h : n ≤ 8) : Txt.mul (Str.ofString " ") (n : Int) ++ Str.ofString "|\n" = pageR [n] := eq_of_beq (List.all_eq_true.mp lines_ok n (List.mem_range.mpr (by omega)))
theorem fstL_yes {S : List Int} {i : Nat} (h : S.getD i 0 < 0) : fstL S (i + 1) = fstL S i ++ [pageR [(S.take i).count 1]] := by
  unfold fstL
  rw [List.range_succ, List.filter_append, List.map_append]
  simp only [List.filter_cons, List.filter_nil, decide_eq_true h, if_true, List.map_cons, List.map_nil]
theorem fstL_no {S : List Int} {i : Nat} (h : ¬ S.getD i 0 < 0) : fstL S (i + 1) = fstL S i := by
  unfold fstL
  rw [List.range_succ, List.filter_append, List.map_append]
  simp only [List.filter_cons, List.filter_nil, decide_eq_false h, Bool.false_eq_true, if_false, List.map_nil, List.append_nil]
theorem sndL_yes {S : List Int} {i : Nat} (h : 0 < S.getD (7 - i) 0) : sndL S (i + 1) = sndL S i ++ [pageR [(S.drop (7 - i)).count (-1)]] := by
  unfold sndL
  rw [List.range_succ, List.filter_append, List.map_append]
  simp only [List.filter_cons, List.filter_nil, decide_eq_true h, if_true, List.map_cons, List.map_nil]
theorem sndL_no {S : List Int} {i : Nat} (h : ¬ 0 < S.getD (7 - i) 0) : sndL S (i + 1) = sndL S i := by
  unfold sndL
  rw [List.range_succ, List.filter_append, List.map_append]
  simp only [List.filter_cons, List.filter_nil, decide_eq_false h, Bool.false_eq_true, if_false, List.map_nil, List.append_nil]
theorem count_le8 {S : List Int} {a : Int} (h : S.length ≤ 8) : S.count a ≤ 8 := Nat.le_trans List.count_le_length h
end
section -- B1
set_option maxHeartbeats 600000
/-- what the law's first part leaves -/
structure PartA (ds : List Int) (D Dc Ds Dg : Addr) (ys cs ss : List Value) (gs : List (Addr × List Value)) : Prop where
  hI : IntsAre ys ds
  hdn : ds.length = 9
  hdp : ∀ d ∈ ds, 0 ≤ d
  hcs : StrsAre cs (cellsOf ds)
  hss : IntsAre ss ((cellsOf ds).map dpt)
  n : gs.length = rowsN (manyOf ds)
  str : ∀ (j : Nat) (g : Addr × List Value), gs[j]? = some g → StrsAre g.2 (rowS (manyOf ds) (cellsOf ds) j)
  nd : (gs.map (·.1)).Nodup
  off : ∀ g ∈ gs, g.1 ≠ Dg ∧ g.1 ≠ D ∧ g.1 ≠ Dc ∧ g.1 ≠ Ds
  offg : Dg ≠ D ∧ Dg ≠ Dc ∧ Dg ≠ Ds
noncomputable abbrev ledA (L D Dc Ds Dg : Addr) (o1 o2 o3 o4 : Obj) (ys cs ss : List Value) (nD nC nS : Nat) (gs : List (Addr × List Value)) (p1 p2 : Array Value) : List (Addr × Obj) :=
  (Dg, LCg.lst (gs.map fun g => Value.ref g.1)) :: (Ds, srcO ss.toArray nS) :: (Dc, srcO cs.toArray nC) :: (D, srcO ys.toArray nD) :: (L + 1, o4) :: (L + 1 + 1, o3) :: (L + 1 + 1 + 1, o2) :: (L + 1 + 1 + 1 + 1, o1) :: (183, tabObj p1) :: (190, tabObj p2) :: gs.map fun g => (g.1, LCg.lst g.2)
theorem words_B1_1 : True := by
  k_with_none
  w_top off
  k_with "g_enterC" => ((
  (have Xᵥ := Base.K (by assumption)); (have Tᵥ := Base.T (by assumption)); revert Tᵥ; revert Xᵥ; k_fill; intro _ _
  k_dflt (refine' enterCG ?k1ᵥ ?k2ᵥ ?k3ᵥ ?k4ᵥ ?k5ᵥ ?k6ᵥ ?k7ᵥ ?k8ᵥ ?k9ᵥ ?k10ᵥ ?_; (case k1ᵥ => assumption); (case k2ᵥ => exact Room.depth (by assumption)); (case k3ᵥ => k_is); (case k4ᵥ => k_is); (case k5ᵥ => first | exact BindsTo.of_eq rfl | exact binds_K (by k_in) rfl (by k_is) rfl rfl rfl | fail "m_enter: no rule for these arguments"); (case k6ᵥ => exact rfl); (case k7ᵥ => decide +kernel); (case k8ᵥ => exact rfl); (case k9ᵥ => exact rfl); (case k10ᵥ => exact rfl); k_whole; intro _ _ _ _ _ N'ᵥ Y'ᵥ; k_cells Y'ᵥ; (try simp only [List.cons_append, List.nil_append] at N'ᵥ); (try dsimp only); (try k_fold)))); (try (revert N'ᵥ; intro _)); (try (revert Y'ᵥ; intro _))
  k_with "fn_room" => ((refine roomUp (by assumption) rfl ?_ ?_ <;> ((try dsimp only [Around.deeper, Around.in1, Around.mark]); first | exact Nat.add_le_add_left (by decide) _ | exact upLe (by decide) | exact upLe2 (by decide) | omega)))
  k_with "call ref" => ((refine unstop ?_))
  k_with "storeName" => (((with_reducible show wpAny _ _ (storeName _ (Str.ofString "many") _) _ _ _); refine unstop ?_))
  k_with "storeName" => (((with_reducible show wpAny _ _ (storeName _ (Str.ofString "cells") _) _ _ _); refine unstop ?_))
  k_with "storeName" => (((with_reducible show wpAny _ _ (storeName _ (Str.ofString "signs") _) _ _ _); refine unstop ?_))
  k_with "storeName" => (((with_reducible show wpAny _ _ (storeName _ (Str.ofString "ended") _) _ _ _); refine unstop ?_))
  trivial
theorem law_a (w : World) (mean : ExcName → Option Value) (mg mb : Str → Option Value) (l : Addr) (vs : List Value) (ns : List Int) (hi : IntsAre vs ns) (hn : ns.length ≤ 63) (A : Around) (s : Shared) (Q E : Value → Shared → Prop) (gb : Heap) (rm : Room A 60) (B : Base w mean mg mb gb) (hk : Grows gb s.heap) (hz : gb.objs.size ≤ s.heap.objs.size) (ha : Above gb s.heap [(183, tabObj #[]), (190, tabObj #[])]) (hl : gb.IsList l vs.toArray) (hbr : AllBare s.gens)
    (next : ∀ (A' : Around) (L D Dc Ds Dg : Addr) (ds : List Int) (ys cs ss : List Value) (gs : List (Addr × List Value)) (o1 o2 o3 o4 : Obj) (tm : Tok) (nD nC nS : Nat) (p1 p2 : Array Value) (s' : Shared), Room A' 59 → PartA ds D Dc Ds Dg ys cs ss gs → o1.data = .cell none → o2.data = .cell (some (.ref Ds)) → o3.data = .cell (some (.ref Dc)) → o4.data = .cell (some (.int (manyOf ds : Int) tm)) →
      Fr gb L s'.heap (fun y => if y = Str.ofString "grid" then some (.ref Dg) else if y = Str.ofString "draws" then some (.ref D) else if y = Str.ofString "script" then some (.ref l) else none) → News gb L s'.heap (ledA L D Dc Ds Dg o1 o2 o3 o4 ys cs ss nD nC nS gs p1 p2) → Still s.os s' →
      wpG (model PySem.Challenge.rw_xo0029_01.row.prog w) A' (execs ((bodyAt w).drop 5) (envAt w L)) (fun fl s' => Q (match fl with | .ret v => v | _ => .none) s') (fun _ _ => False) s') : wpG (model PySem.Challenge.rw_xo0029_01.row.prog w) A (call (.ref 305) [.ref l]) Q E s := by
  obtain ⟨hh, dp, fr, gd, un⟩ := A
  obtain ⟨g, gs, dr, tk, os⟩ := s
  obtain rfl : hh = none := rm.hh
  dsimp only at hk hz ha hbr
  have B1 := B.keeps hk
  walk_at "g_enterC"
  (with_reducible rename Fr _ _ _ _ => F0); (with_reducible rename News _ _ _ _ => N0); (with_reducible rename Frag.In _ _ => Xg); (with_reducible rename Top _ _ _ _ _ _ => Tg)
  clear Xg Tg
  rename_i Lx hx0 tkx0 o1 o2 o3 o4 hd1 hd2 hd3 hd4
  replace hd1 := (show o1.data = Data.cell none from hd1)
  replace hd2 := (show o2.data = Data.cell none from hd2)
  replace hd3 := (show o3.data = Data.cell none from hd3)
  replace hd4 := (show o4.data = Data.cell none from hd4)
  have F1 := Fr.lower F0 hk hz
  have N1 := News.lower F0 N0 hk ha
  have F2 := (show Fr gb _ _ (fun y => if y = Str.ofString "script" then some (.ref l) else none) from F1)
  clear F0 N0 F1 B1
  have X2 := Base.K B
  have T2 := Base.T B
  refine gExecsApp (pre := [_, _, _, _, _]) ?_
  k_steps
  unfold Stop
  refine callFn (fn_numbers w mean mg mb l vs ns) (by walk_at "fn_room") B F2 N1 ⟨hl.at fun o e => F2.keep _ o e, hi, hn⟩ ?_
  rintro v h1 tk1 ⟨ys, ds, hL, hI, hdn, hdp⟩ F3 N3 G3
  obtain ⟨D, nD, rfl, N4, -⟩ := NewL.add F2 N1 N3 hL
  clear F2 N1 N3 G3 hL hk hz ha hi hn hl
  (try dsimp only)
  k_steps
  unfold Stop
  (with_reducible rename Fr _ _ _ _ => F5); (with_reducible rename News _ _ _ _ => N5)
  refine setCell F5 N5 (oc := o4) (c := Lx + 1) (by k_mem) hd4 [(D, srcO ys.toArray nD), (Lx + 1 + 1, o3), (Lx + 1 + 1 + 1, o2), (Lx + 1 + 1 + 1 + 1, o1), (183, tabObj #[]), (190, tabObj #[])] (by repeat (first | exact allN | refine kpD (by k_mem) (by first | exact src_nc | exact tab_nc) ?_ | refine kpN (by k_mem) (by first | exact up1 _ | exact up2 _ | exact up3 _ | exact (up1 _).symm | exact (up2 _).symm | exact (up3 _).symm | (refine neN ?_; (try dsimp only); omega)) ?_)) rfl rfl rfl fun h6 o4' hv F6 N6 => ?_
  clear F5 N5
  replace hv := (show o4'.data = .cell (some (.int (2 + (ds.getD 8 0).fmod 3) _)) from hv)
  rw [many_cast] at hv
  generalize Shared.toks _ = tm at hv
  k_steps
  unfold Stop
  refine callL (fn_cells w mean mg mb D ys ds) (by walk_at "fn_room") B F6 N6 ⟨inList N6 (n := nD) (by k_mem), hI, hdn, hdp⟩ fun Dc nC cs h7 tk7 hcs F7 N8 _ => ?_
  clear F6 N6 hd4
  (try dsimp only)
  k_steps
  unfold Stop
  (with_reducible rename Fr _ _ _ _ => F5); (with_reducible rename News _ _ _ _ => N5)
  refine setCell F5 N5 (oc := o3) (c := Lx + 1 + 1) (by k_mem) hd3 [(Dc, srcO cs.toArray nC), (D, srcO ys.toArray nD), (Lx + 1, o4'), (Lx + 1 + 1 + 1, o2), (Lx + 1 + 1 + 1 + 1, o1), (183, tabObj #[]), (190, tabObj #[])] (by repeat (first | exact allN | refine kpD (by k_mem) (by first | exact src_nc | exact tab_nc) ?_ | refine kpN (by k_mem) (by first | exact up1 _ | exact up2 _ | exact up3 _ | exact (up1 _).symm | exact (up2 _).symm | exact (up3 _).symm | (refine neN ?_; (try dsimp only); omega)) ?_)) rfl rfl rfl fun h8 o3' hv3 F6 N6 => ?_
  clear F5 N5 hd3
  k_steps
  unfold Stop
  refine callL (fn_signs w mean mg mb D ys ds) (by walk_at "fn_room") B F6 N6 ⟨inList N6 (n := nD) (by k_mem), hI, hdn, hdp⟩ fun Ds nS ss h7 tk7 hss F7 N8 _ => ?_
  rw [signsOf] at hss
  clear F6 N6
  (try dsimp only)
  k_steps
  unfold Stop
  (with_reducible rename Fr _ _ _ _ => F5); (with_reducible rename News _ _ _ _ => N5)
  refine setCell F5 N5 (oc := o2) (c := Lx + 1 + 1 + 1) (by k_mem) hd2 [(Ds, srcO ss.toArray nS), (Dc, srcO cs.toArray nC), (D, srcO ys.toArray nD), (Lx + 1, o4'), (Lx + 1 + 1, o3'), (Lx + 1 + 1 + 1 + 1, o1), (183, tabObj #[]), (190, tabObj #[])] (by repeat (first | exact allN | refine kpD (by k_mem) (by first | exact src_nc | exact tab_nc) ?_ | refine kpN (by k_mem) (by first | exact up1 _ | exact up2 _ | exact up3 _ | exact (up1 _).symm | exact (up2 _).symm | exact (up3 _).symm | (refine neN ?_; (try dsimp only); omega)) ?_)) rfl rfl rfl fun h8 o2' hv2 F6 N6 => ?_
  clear F5 N5 hd2
  k_steps
  unfold Stop
  have hle := left_cast ds
  rw [show ((ds.getD (Int.toNat 8) 0).fdiv 3).fmod 9 = (leftOf ds : Int) from hle.1]
  clear X2 T2
  have h183 : ((183 : Addr), tabObj #[]) ∈ [(Lx + 1 + 1 + 1, o2'), (Ds, srcO ss.toArray nS), (Dc, srcO cs.toArray nC), (D, srcO ys.toArray nD), (Lx + 1, o4'), (Lx + 1 + 1, o3'), (Lx + 1 + 1 + 1 + 1, o1), (183, tabObj #[]), (190, tabObj #[])] := by k_mem
  have h190 : ((190 : Addr), tabObj #[]) ∈ [(Lx + 1 + 1 + 1, o2'), (Ds, srcO ss.toArray nS), (Dc, srcO cs.toArray nC), (D, srcO ys.toArray nD), (Lx + 1, o4'), (Lx + 1 + 1, o3'), (Lx + 1 + 1 + 1 + 1, o1), (183, tabObj #[]), (190, tabObj #[])] := by k_mem
  refine callA2 (fn_fold8 (os₀ := os) w mean mg mb Dc cs (cellsOf ds) (manyOf ds) (leftOf ds) tm _ hcs (cellsOf_n ds) (cellsOf_in ds) (many_in ds) hle.2) (by walk_at "fn_room") B F6 N6 [] _ allN (fun p hp => hp) allN ⟨hbr, rfl⟩ (allC ⟨_, h183⟩ (allC ⟨_, h190⟩ allN)) ⟨⟨⟨_, h183, .inl rfl⟩, ⟨_, h190, .inl rfl⟩⟩, nC, by k_mem⟩ fun v s' more' m' P kk km F7 N7 G7 => ?_
  obtain ⟨Dg, gr, rfl, P⟩ := P
  have nt := fun q hq hd => kk q hq (notTab N6 h183 h190 hq hd)
  obtain ⟨h9, gs9, dr9, tk9, os9⟩ := s'
  dsimp only at F7 N7 G7
  rw [List.nil_append] at N7
  clear F6 N6 kk
  have X2 := Base.K B
  have T2 := Base.T B
  obtain ⟨⟨q1, t183, _⟩, ⟨q2, t190, _⟩⟩ := P.tabs
  have N8 : News gb Lx h9 (ledA Lx D Dc Ds Dg o1 o2' o3' o4' ys cs ss nD nC nS gr q1 q2) := News.fewer N7 (allC (km _ P.top) (allC (nt _ (by k_mem) src_nf) (allC (nt _ (by k_mem) src_nf) (allC (nt _ (by k_mem) src_nf) (allC (nt _ (by k_mem) (cell_nf hv)) (allC (nt _ (by k_mem) (cell_nf hv3)) (allC (nt _ (by k_mem) (cell_nf hv2)) (allC (nt _ (by k_mem) (cell_nf hd1)) (allC (km _ t183) (allC (km _ t190)
    fun p hp => (List.mem_map.mp hp).elim fun g' hg' => hg'.2 ▸ km _ (P.row g' hg'.1)))))))))))
  have PA : PartA ds D Dc Ds Dg ys cs ss gr := ⟨hI, hdn, hdp, hcs, hss, P.n, P.str, P.nd, fun g' hg' => ⟨P.ne g' hg', fun e => (P.old (D, srcO ys.toArray nD) (by k_mem)).2 g' hg' e.symm, fun e => (P.old (Dc, srcO cs.toArray nC) (by k_mem)).2 g' hg' e.symm, fun e => (P.old (Ds, srcO ss.toArray nS) (by k_mem)).2 g' hg' e.symm⟩, fun e => (P.old (D, srcO ys.toArray nD) (by k_mem)).1 e.symm, fun e => (P.old (Dc, srcO cs.toArray nC) (by k_mem)).1 e.symm, fun e => (P.old (Ds, srcO ss.toArray nS) (by k_mem)).1 e.symm⟩
  clear N7 nt km h183 h190
  (try dsimp only)
  k_steps
  (with_reducible rename Fr _ _ _ _ => F9); (with_reducible rename News _ _ _ _ => N9)
  refine' segShut (w := w) 5 ?ho ?hd ?_
  case ho => k_is
  case hd => rfl
  exact next _ Lx D Dc Ds Dg ds ys cs ss gr o1 o2' o3' o4' tm nD nC nS q1 q2 _ (Room.deeper (d := 59) rm) PA hd1 hv2 hv3 hv F9 N9 G7
end
section -- B2
set_option maxHeartbeats 400000
noncomputable abbrev ledB (L D Dc Ds Dg Dt : Addr) (o1 o2 o3 o4 : Obj) (ys cs ss : List Value) (nD nC nS : Nat) (gs ts : List (Addr × List Value)) (p1 p2 : Array Value) : List (Addr × Obj) :=
  (Dt, LCg.lst (ts.map fun t => Value.ref t.1)) :: (Dg, LCg.lst (gs.map fun g => Value.ref g.1)) :: (Ds, srcO ss.toArray nS) :: (Dc, srcO cs.toArray nC) :: (D, srcO ys.toArray nD) :: (L + 1, o4) :: (L + 1 + 1, o3) :: (L + 1 + 1 + 1, o2) :: (L + 1 + 1 + 1 + 1, o1) :: (183, tabObj p1) :: (190, tabObj p2) :: ((gs.map fun g => (g.1, LCg.lst g.2)) ++ ts.map fun t => (t.1, LCg.lst t.2))
structure PartB (L D Dc Ds Dg Dt Db : Addr) (o1 o2 o3 o4 : Obj) (ds : List Int) (ys cs ss : List Value) (nD nC nS : Nat) (gr ts : List (Addr × List Value)) (p1 p2 : Array Value) (bs : List Value) : Prop where
  n : ts.length = rowsN (manyOf ds)
  int : ∀ (j : Nat) (t : Addr × List Value), ts[j]? = some t → IntsAre t.2 ((rowS (manyOf ds) (cellsOf ds) j).map dpt)
  nd : (ts.map (·.1)).Nodup
  ne : ∀ t ∈ ts, t.1 ≠ Dt
  off : ∀ q ∈ ledA L D Dc Ds Dg o1 o2 o3 o4 ys cs ss nD nC nS gr p1 p2, q.1 ≠ Dt ∧ ∀ t ∈ ts, q.1 ≠ t.1
  offb : ∀ q ∈ ledB L D Dc Ds Dg Dt o1 o2 o3 o4 ys cs ss nD nC nS gr ts p1 p2, q.1 ≠ Db
  bs : IntsAre bs ((cellsOf ds).map dpt)
noncomputable abbrev frB (l D Dg Dt Dz Db : Addr) : Str → Option Value := fun y => if y = Str.ofString "begun" then some (.ref Db) else if y = Str.ofString "sizes" then some (.ref Dz) else if y = Str.ofString "told" then some (.ref Dt) else if y = Str.ofString "grid" then some (.ref Dg) else if y = Str.ofString "draws" then some (.ref D) else if y = Str.ofString "script" then some (.ref l) else none
theorem words_B2_1 : True := by
  k_with_none
  w_top off
  k_with "fn_room" => ((refine roomUp (by assumption) rfl ?_ ?_ <;> ((try dsimp only [Around.deeper, Around.in1, Around.mark]); first | exact Nat.add_le_add_left (by decide) _ | exact upLe (by decide) | exact upLe2 (by decide) | omega)))
  k_with "call ref" => ((refine unstop ?_))
  k_with "storeName" => (((with_reducible show wpAny _ _ (storeName _ (Str.ofString "many") _) _ _ _); refine unstop ?_))
  k_with "storeName" => (((with_reducible show wpAny _ _ (storeName _ (Str.ofString "cells") _) _ _ _); refine unstop ?_))
  k_with "storeName" => (((with_reducible show wpAny _ _ (storeName _ (Str.ofString "signs") _) _ _ _); refine unstop ?_))
  k_with "storeName" => (((with_reducible show wpAny _ _ (storeName _ (Str.ofString "ended") _) _ _ _); refine unstop ?_))
  k_with "exec Assign cons ListComp" => ((refine unstop ?_))
  k_with "eval ListComp" => ((refine unstop ?_))
  k_with "CompSrc" => ((refine unstop ?_))
  k_with "call builtin:len" => ((refine unstop ?_))
  k_with "compareOp NotEq ref ref" => ((refine unstop ?_))
  k_with "subscriptTail Name Slice ref ref" => ((refine unstop ?_))
  trivial
theorem law_b (w : World) (mean : ExcName → Option Value) (mg mb : Str → Option Value) (gb : Heap) (B : Base w mean mg mb gb) (A : Around) (rm : Room A 59) (Q : Flow → Shared → Prop) (E : Value → Shared → Prop) (l L D Dc Ds Dg : Addr) (ds : List Int) (ys cs ss : List Value) (gr : List (Addr × List Value)) (o1 o2 o3 o4 : Obj) (tm : Tok) (nD nC nS : Nat) (p1 p2 : Array Value) (s : Shared) (os₀ : OsState)
    (P : PartA ds D Dc Ds Dg ys cs ss gr) (hd1 : o1.data = .cell none) (hd2 : o2.data = .cell (some (.ref Ds))) (hd3 : o3.data = .cell (some (.ref Dc))) (hd4 : o4.data = .cell (some (.int (manyOf ds : Int) tm)))
    (F : Fr gb L s.heap (fun y => if y = Str.ofString "grid" then some (.ref Dg) else if y = Str.ofString "draws" then some (.ref D) else if y = Str.ofString "script" then some (.ref l) else none)) (N : News gb L s.heap (ledA L D Dc Ds Dg o1 o2 o3 o4 ys cs ss nD nC nS gr p1 p2)) (hst : Still os₀ s)
    (next : ∀ (Dt Db Dz : Addr) (ts : List (Addr × List Value)) (bs : List Value) (nb : Nat) (s' : Shared), PartB L D Dc Ds Dg Dt Db o1 o2 o3 o4 ds ys cs ss nD nC nS gr ts p1 p2 bs → Fr gb L s'.heap (frB l D Dg Dt Dz Db) → News gb L s'.heap ((Db, srcO bs.toArray nb) :: ledB L D Dc Ds Dg Dt o1 o2 o3 o4 ys cs ss nD nC nS gr ts p1 p2) → Still os₀ s' →
      wpG (model PySem.Challenge.rw_xo0029_01.row.prog w) A (execs ((bodyAt w).drop 9) (envAt w L)) Q E s') :
    wpG (model PySem.Challenge.rw_xo0029_01.row.prog w) A (execs ((bodyAt w).drop 5) (envAt w L)) Q E s := by
  obtain ⟨hh, dp, fr, gd, un⟩ := A
  obtain ⟨g, gs, dr, tk, os⟩ := s
  obtain rfl : hh = none := rm.hh
  dsimp only at F N
  have X2 := Base.K B
  have T2 := Base.T B
  have hm := many_in ds
  obtain ⟨hb2, hb4⟩ := many_bd ds
  have hu : un + 64 < cLine := by have := rm.hu; dsimp only at this; omega
  have hrow : ∀ i r, gr[i]? = some r → StrsAre r.2 (rowS (manyOf ds) (cellsOf ds) i) ∧ (∀ c ∈ rowS (manyOf ds) (cellsOf ds) i, Cell c) ∧ (rowS (manyOf ds) (cellsOf ds) i).length ≤ 100 := fun i r h => ⟨P.str i r h, fun c hc => cell_of (cellsOf_in ds c (rowS_mem hc)), Nat.le_trans rowS_le (by omega)⟩
  have hnr := rows8_n hm
  have hLg : g.IsList Dg (gr.map fun g => Value.ref g.1).toArray := inLst N (.head _)
  have hLr : ∀ r ∈ gr, g.IsList r.1 r.2.toArray := fun r hr => inLst N (List.mem_of_mem_drop (i := 10) (List.mem_map.mpr ⟨r, hr, rfl⟩))
  revert X2; k_fill; intro X2
  refine' segOpen (w := w) 5 ?ho ?hd ?_
  case ho => k_is
  case hd => exact rfl
  simp only [List.drop_succ_cons, List.drop_zero]
  refine gExecsApp (pre := [_, _, _, _]) ?_
  k_steps
  unfold Stop
  refine callFn (fn_told w mean mg mb Dg gr (rowS (manyOf ds) (cellsOf ds)) dpt (fun x tb hc => fn_dpt w mean mg mb x tb hc) (by rw [P.n]; omega) hrow) (by walk_at "fn_room") B F N ⟨hLg, hLr⟩ ?_
  rintro v h1 tk1 ⟨Dt, ts, rfl, R, tn, hts⟩ F3 N3 G3
  have N4 : News gb L h1 (ledB L D Dc Ds Dg Dt o1 o2 o3 o4 ys cs ss nD nC nS gr ts p1 p2) := News.fewer (News.addNew F N3 R.ab) (allC (.head _) (allA (l := ledA L D Dc Ds Dg o1 o2 o3 o4 ys cs ss nD nC nS gr p1 p2) (fun p hp => List.mem_append_right _ hp)
    fun p hp => List.mem_append_left _ (.tail _ ((List.mem_map.mp hp).elim fun t ht => List.mem_map.mpr ⟨t, List.mem_reverse.mpr ht.1, ht.2⟩))))
  have hfr : ∀ q ∈ ledA L D Dc Ds Dg o1 o2 o3 o4 ys cs ss nD nC nS gr p1 p2, q.1 ≠ Dt ∧ ∀ t ∈ ts, q.1 ≠ t.1 := fun q hq => by
    have key : ∀ b o, (b, o) ∈ ((Dt, LCg.lst (ts.map fun t => Value.ref t.1)) :: ts.reverse.map fun t => (t.1, LCg.lst t.2)) → q.1 ≠ b := fun b o hb e => by
      have h1 := (R.ab _ hb).2
      have h2 := (N q hq).1
      rw [e] at h2
      rw [show g.get? b = none from h1] at h2
      cases h2
    exact ⟨key _ _ (.head _), fun t ht => key t.1 _ (.tail _ (List.mem_map.mpr ⟨t, List.mem_reverse.mpr ht, rfl⟩))⟩
  clear hLg hLr F N N3 G3
  (try dsimp only)
  k_steps
  unfold Stop
  (with_reducible rename Fr _ _ _ _ => F5); (with_reducible rename News _ _ _ _ => N5)
  have hsz9 : (1000000 : Nat) ≤ sizeLine := Nat.le_of_ble_eq_true (by decide +kernel)
  have htl : ts.length = rowsN (manyOf ds) := tn.trans P.n
  refine LCg.Assign_ListComp_U (F₀ := F5) (by rfl) (by with_unfolding_all rfl) (by with_unfolding_all rfl) (by decide) (by rfl) (by decide) (by rfl) (by rfl) (by rfl) ?_
  k_steps
  unfold Stop
  (with_reducible rename Fr _ _ _ _ => F6); (with_reducible rename News _ _ _ _ => N6)
  refine LCg.CompSrc.ledger rfl F6 N6 (.head _) (by rw [List.size_toArray, List.length_map, htl]; omega) fun g' => ?_
  refine CRest.indF (fun i zs => IntsAre zs ((List.range i).map fun j => (rowN (manyOf ds) j : Int))) ?fin1 ?step1 .nil
  case step1 =>
    rintro i zs hi hI v I oI C oC Z m₂ h tk2 E' hv hoC hx F2 N2 off ne
    clear F6 N6
    have hi' : i < ts.length := by simpa using hi
    obtain ⟨rv, hrv⟩ : ∃ rv, ts[i]? = some rv := ⟨_, List.getElem?_eq_getElem hi'⟩
    obtain rfl : v = Value.ref rv.1 := by
      rw [List.getElem?_toArray, List.getElem?_map, hrv] at hv
      exact (Option.some.inj hv).symm
    have hlen : rv.2.length = rowN (manyOf ds) i := by
      rw [IntsAre.size (hts i rv hrv), List.length_map, rowN_is (cellsOf_n ds)]
    have hle8 : rowN (manyOf ds) i ≤ 4 := Nat.le_trans rowN_le (by omega)
    clear hv
    k_steps
    unfold Stop
    (with_reducible rename Fr _ _ _ _ => F7); (with_reducible rename News _ _ _ _ => N7)
    refine len_list (items := rv.2.toArray) (inLst N7 ?_) (by rw [List.size_toArray]; omega) ?_
    · exact .tail _ (.tail _ (.tail _ (List.mem_append_right (ledA L D Dc Ds Dg o1 o2 o3 o4 ys cs ss nD nC nS gr p1 p2) (List.mem_map.mpr ⟨rv, List.mem_of_getElem? hrv, rfl⟩) |> (List.mem_cons_of_mem _))))
    k_steps
    (with_reducible rename Fr _ _ _ _ => F8); (with_reducible rename News _ _ _ _ => N8)
    refine LCg.CompEnd.intro F8 N8 _ (fun p hp => hp) off (.inr ⟨_, .head _, rfl, _, rfl⟩) ⟨rfl, ?_⟩
    rw [List.range_succ, List.map_append, List.size_toArray, hlen]
    exact IntsAre.snoc hI _ _
  case fin1 =>
    rintro zs hIz
    intro Dz h2 tk2 F2 N2 o1
    rw [List.size_toArray, List.length_map, htl] at hIz
    clear F6 N6
    have ozs := off1_all o1
    replace F2 : Fr gb L h2 (fun y => if y = Str.ofString "sizes" then some (.ref Dz) else if y = Str.ofString "told" then some (.ref Dt) else if y = Str.ofString "grid" then some (.ref Dg) else if y = Str.ofString "draws" then some (.ref D) else if y = Str.ofString "script" then some (.ref l) else none) := F2
    k_steps
    unfold Stop
    have hz : ∀ r ∈ ts, r.2.length ≤ 1000 := fun r hr => by
      obtain ⟨j, hj⟩ := List.getElem?_of_mem hr
      rw [IntsAre.size (hts j r hj), List.length_map, rowN_is (cellsOf_n ds)]
      exact Nat.le_trans rowN_le (by omega)
    refine callL0 (fn_flat w mean mg mb Dt ts (by rw [htl]; omega) hz) (by walk_at "fn_room") B F2 N2 ⟨inLst N2 (.tail _ (.head _)), fun r hr => inLst N2 (.tail _ (.tail _ (List.mem_append_right (ledA L D Dc Ds Dg _ o2 o3 o4 ys cs ss nD nC nS gr p1 p2) (List.mem_map.mpr ⟨r, hr, rfl⟩))))⟩ fun Db nb h3 tk3 F3 N4 obs => ?_
    clear hz
    have hbs : IntsAre (ts.flatMap (·.2)) ((cellsOf ds).map dpt) := by
      have h := flat_ints ts (fun j => (rowS (manyOf ds) (cellsOf ds) j).map dpt) hts
      rw [htl, show (fun j => (rowS (manyOf ds) (cellsOf ds) j).map dpt) = rowS (manyOf ds) ((cellsOf ds).map dpt) from funext fun j => rowS_map dpt, rowS_flat hm (by rw [List.length_map, cellsOf_n])] at h
      exact h
    generalize ts.flatMap (·.2) = bs at hbs N4 obs
    clear F2 N2
    (try dsimp only)
    k_steps
    unfold Stop
    (with_reducible rename Fr _ _ _ _ => F5); (with_reducible rename News _ _ _ _ => N5)
    refine ke_ne_ints (inList N5 (.head _)) (inList N5 (.tail _ (.tail _ (.tail _ (.tail _ (.head _)))))) hbs P.hss hu ?_
    rw [decide_eq_true rfl]
    (try dsimp only [Bool.not_true])
    k_steps
    unfold Stop
    (with_reducible rename Fr _ _ _ _ => F6)
    refine ListComp_R F6 (by with_unfolding_all rfl) (by decide) (by rfl) (by decide) (by rfl) ?_ (by intro _; rfl)
    refine stopQ ?_
    k_steps
    unfold Stop
    (with_reducible rename Fr _ _ _ _ => F7); (with_reducible rename News _ _ _ _ => N7); (with_reducible rename IsRange _ _ _ _ _ _ _ _ => R7)
    refine ⟨_, _, _, _, _, _, _, rowsN (manyOf ds), _, rfl, rfl, F7, N7, R7, (size8 hm).1, (size8 hm).2, by omega, fun g' => ?_⟩
    refine CRest.indF (fun i us => IntsAre us ((List.range i).map fun j => (rowN (manyOf ds) j : Int))) ?fin2 ?step2 .nil
    case step2 =>
      rintro i us hi hI v I oI C oC Z m₂ h tk4 E' ⟨_, t, rfl⟩ hoC hx F2 N2 off ne
      clear F7 N7 R7
      k_steps
      unfold Stop
      (with_reducible rename Fr _ _ _ _ => F8); (with_reducible rename News _ _ _ _ => N8)
      refine slice_list (s := ⟨_, _, _, _, _⟩) F8 N8 (inList N8 (D := Ds) (vs := ss) (n := nS) (by k_mem)) (.int _ _) (.int _ _) (fun h' F9 N9 => ?_) (by with_unfolding_all rfl) (by intro _; with_unfolding_all rfl) ?_
      · k_steps
        unfold Stop
        (with_reducible rename Fr _ _ _ _ => F10); (with_reducible rename News _ _ _ _ => N10)
        refine len_list (items := slicePick ss.toArray (some (0 + (i : Int) * (manyOf ds : Int))) (some (0 + (i : Int) * (manyOf ds : Int) + (manyOf ds : Int))) none) ⟨_, (N10 _ (.head _)).1, rfl, _, rfl⟩ ?_ ?_
        · rw [slice_len hm hi P.hss (by rw [List.length_map, cellsOf_n])]
          have := @rowN_le (manyOf ds) i
          omega
        rw [slice_len hm hi P.hss (by rw [List.length_map, cellsOf_n])]
        k_steps
        (with_reducible rename Fr _ _ _ _ => F11); (with_reducible rename News _ _ _ _ => N11)
        refine LCg.CompEnd.intro F11 N11 ((Db, srcO bs.toArray nb) :: (Dz, LCg.lst zs) :: ledB L D Dc Ds Dg Dt _ o2 o3 o4 ys cs ss nD nC nS gr ts p1 p2) (fun p hp => .tail _ hp) off trivial ⟨rfl, ?_⟩
        rw [List.range_succ, List.map_append]
        exact IntsAre.snoc hI _ _
      · rw [List.size_toArray, IntsAre.size P.hss, List.length_map, cellsOf_n]; omega
    case fin2 =>
      rintro us hIu
      intro Du h4 tk4 F8 N8 o8
      clear F7 N7 R7
      k_steps
      unfold Stop
      (with_reducible rename Fr _ _ _ _ => F9); (with_reducible rename News _ _ _ _ => N9)
      refine ke_ne_ints (inLst N9 (.tail _ (.tail _ (.head _)))) (inLst N9 (.head _)) hIz hIu hu ?_
      rw [decide_eq_true rfl]
      (try dsimp only [Bool.not_true])
      k_steps
      (try dsimp only)
      (with_reducible rename Fr _ _ _ _ => F10); (with_reducible rename News _ _ _ _ => N10)
      refine' segShut (w := w) 9 ?ho ?hd ?_
      case ho => k_is
      case hd => rfl
      exact next Dt Db Dz ts bs nb _ ⟨htl, hts, R.nd, R.ne, hfr, fun q hq => obs q (.tail _ hq), hbs⟩ F10 (News.fewer N10 (allC (.tail _ (.head _)) fun p hp => .tail _ (.tail _ (.tail _ hp)))) hst
end
section -- Y5
set_option maxHeartbeats 400000
noncomputable def fstR (S : List Int) : List Nat := ((List.range 8).filter fun k => decide (S.getD k 0 < 0)).map fun k => (S.take k).count 1
noncomputable def sndR (S : List Int) : List Nat := ((List.range 8).filter fun k => decide (0 < S.getD (7 - k) 0)).map fun k => (S.drop (7 - k)).count (-1)
theorem fs_all : (allE 8).all (fun S => fstR S == rowsOf S && sndR S == rowsOf ((S.map (- ·)).reverse) && (fstR S).all (· ≤ 8) && (sndR S).all (· ≤ 8)) = true := by decide +kernel
theorem cat_lines : ∀ rs : List Nat, catS (rs.map fun n => pageR [n]) = pageR rs
  | [] => rfl
  | n :: r => by
    have h := cat_lines r
    unfold catS pageR at *
    rw [List.map_cons, List.flatMap_cons]
    have h2 := congrArg (fun x : Str => x.cps.toList) h
    simp only at h2
    rw [h2]
    simp [pageC]
theorem fst_lines (S : List Int) : fstL S 8 = (fstR S).map fun n => pageR [n] := by unfold fstL fstR; rw [List.map_map]; rfl
theorem snd_lines (S : List Int) : sndL S 8 = (sndR S).map fun n => pageR [n] := by unfold sndL sndR; rw [List.map_map]; rfl
theorem line_len (n : Nat) : (pageR [n]).length = n + 2 := by simp [pageR, pageC, Str.length]
theorem lines_sum {rs : List Nat} (h : ∀ n ∈ rs, n ≤ 8) (hl : rs.length ≤ 8) : ((rs.map fun n => pageR [n]).map (·.length)).sum + (rs.map fun n => pageR [n]).length ≤ 1000 := by
  have h1 := sum_le (k := 10) (ls := (rs.map fun n => pageR [n]).map (·.length)) fun a ha => by
    rw [List.map_map] at ha
    obtain ⟨n, hn, rfl⟩ := List.mem_map.mp ha
    show (pageR [n]).length ≤ 10
    rw [line_len]
    have := h n hn
    omega
  rw [List.length_map, List.length_map] at h1
  rw [List.length_map]
  omega
section
variable {S : List Int}
theorem fs_of (hn : S.length = 8) (hs : ∀ x ∈ S, x = 1 ∨ x = -1) : fstR S = rowsOf S ∧ sndR S = rowsOf ((S.map (- ·)).reverse) ∧ (∀ n ∈ fstR S, n ≤ 8) ∧ ∀ n ∈ sndR S, n ≤ 8 := by
  have h := mem_all fs_all (mem_allE 8 S hn hs)
  simp only [Bool.and_eq_true, beq_iff_eq, List.all_eq_true, decide_eq_true_eq] at h
  exact ⟨h.1.1.1, h.1.1.2, h.1.2, h.2⟩
theorem fst_join (hn : S.length = 8) (hs : ∀ x ∈ S, x = 1 ∨ x = -1) : Txt.join (Str.ofString "") (fstL S 8) = pageOf S := by
  rw [join_cat, fst_lines, cat_lines, (fs_of hn hs).1]
  rfl
theorem snd_join (hn : S.length = 8) (hs : ∀ x ∈ S, x = 1 ∨ x = -1) : Txt.join (Str.ofString "") (sndL S 8) = pageOf (S.map (- ·)).reverse := by
  rw [join_cat, snd_lines, cat_lines, (fs_of hn hs).2.1]
  rfl
theorem fst_sum (hn : S.length = 8) (hs : ∀ x ∈ S, x = 1 ∨ x = -1) : ((fstL S 8).map (·.length)).sum + (fstL S 8).length ≤ 1048576 := by
  rw [fst_lines]
  exact Nat.le_trans (lines_sum (fs_of hn hs).2.2.1 (by unfold fstR; rw [List.length_map]; exact Nat.le_trans (List.length_filter_le _ _) (by simp))) (by decide)
theorem snd_sum (hn : S.length = 8) (hs : ∀ x ∈ S, x = 1 ∨ x = -1) : ((sndL S 8).map (·.length)).sum + (sndL S 8).length ≤ 1048576 := by
  rw [snd_lines]
  exact Nat.le_trans (lines_sum (fs_of hn hs).2.2.2 (by unfold sndR; rw [List.length_map]; exact Nat.le_trans (List.length_filter_le _ _) (by simp))) (by decide)
end
end
section -- B3
set_option maxHeartbeats 600000
noncomputable abbrev frC (l D Dg Dt Dz Db : Addr) (S : List Int) (t1 t2 : Tok) : Str → Option Value := fun y => if y = Str.ofString "second" then some (.str (pageOf (S.map (- ·)).reverse) t2) else if y = Str.ofString "first" then some (.str (pageOf S) t1) else frB l D Dg Dt Dz Db y
theorem words_B3_1 : True := by
  k_with_none
  w_top off
  k_with "fn_room" => ((refine roomUp (by assumption) rfl ?_ ?_ <;> ((try dsimp only [Around.deeper, Around.in1, Around.mark]); first | exact Nat.add_le_add_left (by decide) _ | exact upLe (by decide) | exact upLe2 (by decide) | omega)))
  k_with "call ref" => ((refine unstop ?_))
  k_with "storeName" => (((with_reducible show wpAny _ _ (storeName _ (Str.ofString "many") _) _ _ _); refine unstop ?_))
  k_with "storeName" => (((with_reducible show wpAny _ _ (storeName _ (Str.ofString "cells") _) _ _ _); refine unstop ?_))
  k_with "storeName" => (((with_reducible show wpAny _ _ (storeName _ (Str.ofString "signs") _) _ _ _); refine unstop ?_))
  k_with "storeName" => (((with_reducible show wpAny _ _ (storeName _ (Str.ofString "ended") _) _ _ _); refine unstop ?_))
  k_with "eval ListComp" => ((refine unstop ?_))
  k_with "subscriptTail Name Slice ref ref" => ((refine unstop ?_))
  k_with "call builtin:str.join" => ((refine unstop ?_))
  trivial
theorem law_c (w : World) (mean : ExcName → Option Value) (mg mb : Str → Option Value) (gb : Heap) (B : Base w mean mg mb gb) (A : Around) (rm : Room A 59) (Q : Flow → Shared → Prop) (E : Value → Shared → Prop) (l L D Dc Ds Dg Dt Dz Db : Addr) (ds : List Int) (ys cs ss bs : List Value) (gr ts : List (Addr × List Value)) (o1 o2 o3 o4 : Obj) (tm : Tok) (nD nC nS nb : Nat) (p1 p2 : Array Value) (s : Shared) (os₀ : OsState)
    (P : PartA ds D Dc Ds Dg ys cs ss gr) (hd1 : o1.data = .cell none) (hd2 : o2.data = .cell (some (.ref Ds))) (hd3 : o3.data = .cell (some (.ref Dc))) (hd4 : o4.data = .cell (some (.int (manyOf ds : Int) tm))) (PB : PartB L D Dc Ds Dg Dt Db o1 o2 o3 o4 ds ys cs ss nD nC nS gr ts p1 p2 bs)
    (F : Fr gb L s.heap (frB l D Dg Dt Dz Db)) (N : News gb L s.heap ((Db, srcO bs.toArray nb) :: ledB L D Dc Ds Dg Dt o1 o2 o3 o4 ys cs ss nD nC nS gr ts p1 p2)) (hst : Still os₀ s)
    (next : ∀ (t1 t2 : Tok) (s' : Shared), Fr gb L s'.heap (frC l D Dg Dt Dz Db ((cellsOf ds).map dpt) t1 t2) → News gb L s'.heap ((Db, srcO bs.toArray nb) :: ledB L D Dc Ds Dg Dt o1 o2 o3 o4 ys cs ss nD nC nS gr ts p1 p2) → Still os₀ s' →
      wpG (model PySem.Challenge.rw_xo0029_01.row.prog w) A (execs ((bodyAt w).drop 13) (envAt w L)) Q E s') :
    wpG (model PySem.Challenge.rw_xo0029_01.row.prog w) A (execs ((bodyAt w).drop 9) (envAt w L)) Q E s := by
  obtain ⟨hh, dp, fr, gd, un⟩ := A
  obtain ⟨g, gs, dr, tk, os⟩ := s
  obtain rfl : hh = none := rm.hh
  dsimp only at F N
  have X2 := Base.K B
  have T2 := Base.T B
  have hu : un + 64 < cLine := by have := rm.hu; dsimp only at this; omega
  have hsg : ∀ x ∈ (cellsOf ds).map dpt, x = 1 ∨ x = -1 := fun x hx => by
    obtain ⟨c, hc, rfl⟩ := List.mem_map.mp hx
    exact (dpt_of (cellsOf_in ds c hc)).1
  have hn8 : ((cellsOf ds).map dpt).length = 8 := by rw [List.length_map, cellsOf_n]
  revert X2; k_fill; intro X2
  refine' segOpen (w := w) 9 ?ho ?hd ?_
  case ho => k_is
  case hd => exact rfl
  simp only [List.drop_succ_cons, List.drop_zero]
  refine gExecsApp (pre := [_]) ?_
  k_steps
  unfold Stop
  refine callFn (fn_dgm w mean mg mb Db bs ((cellsOf ds).map dpt)) (by walk_at "fn_room") B F N ⟨inList N (.head _), PB.bs, hn8, hsg⟩ ?_
  rintro v h1 tk1 ⟨t1, rfl⟩ F1 N1 -
  clear F N
  (try dsimp only)
  k_steps
  (try dsimp only)
  (with_reducible rename Fr _ _ _ _ => F2); (with_reducible rename News _ _ _ _ => N2)
  refine gExecsCons (gAssignName ?_ (by rfl))
  refine gCallName ?_
  k_steps
  refine gCallWithK B (by k_is) (by rfl) (gArgs rfl ?_)
  refine gCallName ?_
  k_steps
  refine gCallWithK B (by k_is) (by rfl) (gArgs rfl (gAny ?_))
  k_steps
  refine gSplicedNil ⟨Fr.keep (by assumption), ?_⟩
  refine callLG (fn_turned8 w mean mg mb Dc cs (cellsOf ds) (cellsOf_n ds) (cellsOf_in ds)) (by walk_at "fn_room") B (by k_asm) (by k_asm) ⟨inList (by assumption) (D := Dc) (n := nC) (by k_mem), P.hcs⟩ fun Du nu us h3 tk3 hI F3 N4 _ => ?_
  clear F2 N2
  rw [turn_is] at hI
  have htn : ((((cellsOf ds).map dpt).map (- ·)).reverse).length = 8 := by rw [List.length_reverse, List.length_map, hn8]
  have hts : ∀ x ∈ (((cellsOf ds).map dpt).map (- ·)).reverse, x = 1 ∨ x = -1 := fun x hx => by
    obtain ⟨y, hy, rfl⟩ := List.mem_map.mp (List.mem_reverse.mp hx)
    rcases hsg y hy with rfl | rfl
    · exact .inr rfl
    · exact .inl rfl
  refine gSplicedNil ⟨F3.keep, ?_⟩
  refine gAny (callFn (fn_dgm w mean mg mb Du us (((cellsOf ds).map dpt).map (- ·)).reverse) (by walk_at "fn_room") B F3 N4 ⟨inList N4 (.head _), hI, htn, hts⟩ ?_)
  rintro v h4 tk4 ⟨t2, rfl⟩ F5 N5 -
  clear F3
  replace N5 := News.fewer N5 (fun p hp => List.mem_cons_of_mem _ hp)
  clear N4 hI
  have hss := P.hss
  generalize hS : (cellsOf ds).map dpt = S at *
  (try dsimp only)
  k_steps
  refine gExecsApp (pre := [_, _]) ?_
  k_steps
  unfold Stop
  (with_reducible rename Fr _ _ _ _ => F6)
  refine ListComp_RT F6 (by with_unfolding_all rfl) (by decide) (by rfl) (by decide) (by rfl) ?_ (by intro _; rfl)
  refine stopQ ?_
  k_steps
  unfold Stop
  (with_reducible rename Fr _ _ _ _ => F7); (with_reducible rename News _ _ _ _ => N7); (with_reducible rename IsRange _ _ _ _ _ _ _ _ => R7)
  have hsz9 : (1000000 : Nat) ≤ sizeLine := Nat.le_of_ble_eq_true (by decide +kernel)
  refine ⟨_, _, _, _, _, _, _, 8, _, rfl, rfl, F7, N7, R7, by decide +kernel, by decide +kernel, by omega, fun g' => ?_⟩
  refine CRestT.indF (fun i zs => StrsAre zs (fstL S i)) ?fin1 ?step1 .nil
  case step1 =>
    rintro i zs hi hI v I oI C oC Z m₂ h tk5 E' ⟨_, t, rfl⟩ hoC hx F2 N2 off ne
    clear F7 N7 R7
    simp only [Int.mul_one, Int.zero_add] at hx
    have hSi : ∃ u, S[i]? = some u := ⟨_, List.getElem?_eq_getElem (by omega)⟩
    clear hts htn P PB
    have hls : ss.toArray.size ≤ sizeLine := by rw [List.size_toArray, IntsAre.size hss]; omega
    k_steps
    · unfold Stop
      (with_reducible rename Fr _ _ _ _ => F3); (with_reducible rename News _ _ _ _ => N3)
      refine m_slice2 (s := ⟨_, _, _, _, _⟩) F3 N3 (inList N3 (D := Ds) (vs := ss) (n := nS) (by k_mem)) .none (.int _ _) (S.take i) (slice_ints_uptoW hss (Int.natCast_nonneg i)) (fun Y ws h' F9 N9 hW => ?_) (by with_unfolding_all rfl) (by intro _; with_unfolding_all rfl) hls
      clear F3 N3
      have hcn : List.count 1 (S.take i) ≤ 8 := count_le8 (Nat.le_trans (List.length_take_le' _ _) (by omega))
      k_steps
      (with_reducible rename Fr _ _ _ _ => F10); (with_reducible rename News _ _ _ _ => N10)
      refine LCg.CompEnd.intro F10 N10 ((Db, srcO bs.toArray nb) :: ledB L D Dc Ds Dg Dt o1 o2 o3 o4 ys cs ss nD nC nS gr ts p1 p2) (fun p hp => .tail _ hp) off trivial ⟨rfl, ?_⟩
      rw [fstL_yes (by assumption), line_is hcn]
      exact strsAre_snoc hI _ _
    · (with_reducible rename Fr _ _ _ _ => F3); (with_reducible rename News _ _ _ _ => N3)
      refine LCg.CompEnd.intro F3 N3 _ (fun p hp => hp) off trivial ⟨rfl, ?_⟩
      rw [fstL_no (by assumption)]
      exact hI
  case fin1 =>
    rintro zs hI
    intro Dy h5 tk5 F8 N8 o8
    clear F7 N7 R7
    k_steps
    unfold Stop
    refine join_listW (D := Dy) (items := zs.toArray) ⟨_, (N8 _ (.head _)).1, rfl, _, rfl⟩ (by simpa using hI) (by decide) (fst_sum hn8 hsg) fun t6 tk6 => ?_
    rw [fst_join hn8 hsg]
    clear hI
    replace N8 := News.fewer N8 (fun p hp => List.mem_cons_of_mem _ hp)
    (try dsimp only)
    k_steps
    unfold Stop
    (with_reducible rename Fr _ _ _ _ => F9)
    refine ListComp_RT F9 (by with_unfolding_all rfl) (by decide) (by rfl) (by decide) (by rfl) ?_ (by intro _; rfl)
    refine stopQ ?_
    k_steps
    unfold Stop
    (with_reducible rename Fr _ _ _ _ => F7); (with_reducible rename News _ _ _ _ => N7); (with_reducible rename IsRange _ _ _ _ _ _ _ _ => R7)
    refine ⟨_, _, _, _, _, _, _, 8, _, rfl, rfl, F7, N7, R7, by decide +kernel, by decide +kernel, by omega, fun g' => ?_⟩
    refine CRestT.indF (fun i zs => StrsAre zs (sndL S i)) ?fin2 ?step2 .nil
    case step2 =>
      rintro i zs hi hI v I oI C oC Z m₂ h tk5 E' ⟨_, t, rfl⟩ hoC hx F2 N2 off ne
      clear F7 N7 R7
      replace hx : m₂ (Str.ofString "k") = some (.int ((7 - i : Nat) : Int) t) := by
        rw [hx]
        congr 2
        omega
      have hSi : ∃ u, S[7 - i]? = some u := ⟨_, List.getElem?_eq_getElem (by omega)⟩
      clear hts htn P PB
      have hls : ss.toArray.size ≤ sizeLine := by rw [List.size_toArray, IntsAre.size hss]; omega
      have h70 : 0 ≤ ((7 - i : Nat) : Int) := Int.natCast_nonneg _
      k_steps
      · unfold Stop
        (with_reducible rename Fr _ _ _ _ => F3); (with_reducible rename News _ _ _ _ => N3)
        refine m_slice2 (s := ⟨_, _, _, _, _⟩) F3 N3 (inList N3 (D := Ds) (vs := ss) (n := nS) (by k_mem)) (.int _ _) .none (S.drop (7 - i)) (slice_ints_fromW hss h70) (fun Y ws h' F9 N9 hW => ?_) (by with_unfolding_all rfl) (by intro _; with_unfolding_all rfl) hls
        clear F3 N3
        have hcn : List.count (-1) (S.drop (7 - i)) ≤ 8 := count_le8 (by rw [List.length_drop]; omega)
        k_steps
        (with_reducible rename Fr _ _ _ _ => F10); (with_reducible rename News _ _ _ _ => N10)
        refine LCg.CompEnd.intro F10 N10 ((Db, srcO bs.toArray nb) :: ledB L D Dc Ds Dg Dt o1 o2 o3 o4 ys cs ss nD nC nS gr ts p1 p2) (fun p hp => .tail _ hp) off trivial ⟨rfl, ?_⟩
        rw [sndL_yes (by assumption), line_is hcn]
        exact strsAre_snoc hI _ _
      · (with_reducible rename Fr _ _ _ _ => F3); (with_reducible rename News _ _ _ _ => N3)
        refine LCg.CompEnd.intro F3 N3 _ (fun p hp => hp) off trivial ⟨rfl, ?_⟩
        rw [sndL_no (by assumption)]
        exact hI
    case fin2 =>
      rintro zs hI
      intro Dv h7 tk7 F11 N11 o11
      clear F7 N7 R7
      k_steps
      unfold Stop
      refine join_listW (D := Dv) (items := zs.toArray) ⟨_, (N11 _ (.head _)).1, rfl, _, rfl⟩ (by simpa using hI) (by decide) (snd_sum hn8 hsg) fun t8 tk8 => ?_
      rw [snd_join hn8 hsg]
      clear hI
      replace N11 := News.fewer N11 (fun p hp => List.mem_cons_of_mem _ hp)
      (try dsimp only)
      k_steps
      (try dsimp only)
      (with_reducible rename Fr _ _ _ _ => F12); (with_reducible rename News _ _ _ _ => N12)
      refine' segShut (w := w) 13 ?ho ?hd ?_
      case ho => k_is
      case hd => rfl
      subst hS
      exact next t1 t2 _ F12 N12 hst
end
section -- B4a
set_option maxHeartbeats 400000
noncomputable abbrev gaOf (gr : List (Addr × List Value)) (i : Nat) : Addr := (gr.getD i ((0 : Addr), [])).1
noncomputable abbrev gvOf (gr : List (Addr × List Value)) (i : Nat) : List Value := (gr.getD i ((0 : Addr), [])).2
theorem getD_is {gr : List (Addr × List Value)} {i : Nat} (h : i < gr.length) : gr[i]? = some (gr.getD i ((0 : Addr), [])) := by
  rw [List.getD_eq_getElem?_getD, List.getElem?_eq_getElem h]
  rfl
theorem refs_is (gr : List (Addr × List Value)) : (gr.map fun g => Value.ref g.1) = (List.range gr.length).map fun i => Value.ref (gaOf gr i) := by
  refine List.ext_getElem (by simp) fun i h1 h2 => ?_
  have hi : i < gr.length := by simpa using h1
  rw [List.getElem_map, List.getElem_map, List.getElem_range]
  have := getD_is hi
  rw [List.getElem?_eq_getElem hi] at this
  rw [show gr[i] = gr.getD i ((0 : Addr), []) from Option.some.inj this]
theorem ga_inj {gr : List (Addr × List Value)} (nd : (gr.map (·.1)).Nodup) {i j : Nat} (hi : i < gr.length) (hj : j < gr.length) (e : gaOf gr i = gaOf gr j) : i = j := by
  have h := List.pairwise_iff_getElem.mp nd
  have e1 : (gr.map (·.1))[i]'(by simpa using hi) = gaOf gr i := by
    have := getD_is hi
    rw [List.getElem?_eq_getElem hi] at this
    rw [List.getElem_map, Option.some.inj this]
  have e2 : (gr.map (·.1))[j]'(by simpa using hj) = gaOf gr j := by
    have := getD_is hj
    rw [List.getElem?_eq_getElem hj] at this
    rw [List.getElem_map, Option.some.inj this]
  by_cases hlt : i < j
  · exact absurd (by rw [e1, e2, e]) (h i j (by simpa using hi) (by simpa using hj) hlt)
  · by_cases hgt : j < i
    · exact absurd (by rw [e1, e2, e]) (h j i (by simpa using hj) (by simpa using hi) hgt)
    · omega
theorem row_mono {m : Nat} (hm : m = 2 ∨ m = 3 ∨ m = 4) : ∀ i, i + 1 < rowsN m → rowN m (i + 1) ≤ rowN m i := fun i hi => by
  have hr := rows8_n hm
  have hi4 := nat3 (Nat.lt_of_succ_lt_succ (Nat.lt_of_lt_of_le hi hr.1))
  rcases hm with rfl | rfl | rfl <;> rcases hi4 with rfl | rfl | rfl <;> first | decide | (exact absurd hi (by decide))
/-- what the exchange leaves alone -/
noncomputable abbrev ledK (L D Dc Ds Dg Dt Db : Addr) (o1 o2 o3 o4 : Obj) (ys cs ss bs : List Value) (nD nC nS nb : Nat) (gs ts : List (Addr × List Value)) (p1 p2 : Array Value) : List (Addr × Obj) :=
  [(Db, srcO bs.toArray nb), (Dt, LCg.lst (ts.map fun t => Value.ref t.1)), (Dg, LCg.lst (gs.map fun g => Value.ref g.1)), (Ds, srcO ss.toArray nS), (Dc, srcO cs.toArray nC), (D, srcO ys.toArray nD), (L + 1, o4), (L + 1 + 1, o3), (L + 1 + 1 + 1, o2), (L + 1 + 1 + 1 + 1, o1), (183, tabObj p1), (190, tabObj p2)]
noncomputable abbrev led10 (L D Dc Ds Dg : Addr) (o1 o2 o3 o4 : Obj) (ys cs ss : List Value) (nD nC nS : Nat) (gs : List (Addr × List Value)) (p1 p2 : Array Value) : List (Addr × Obj) :=
  [(Dg, LCg.lst (gs.map fun g => Value.ref g.1)), (Ds, srcO ss.toArray nS), (Dc, srcO cs.toArray nC), (D, srcO ys.toArray nD), (L + 1, o4), (L + 1 + 1, o3), (L + 1 + 1 + 1, o2), (L + 1 + 1 + 1 + 1, o1), (183, tabObj p1), (190, tabObj p2)]
theorem lst_ne_cell {vs : List Value} {o : Obj} {v : Option Value} (h : o.data = .cell v) : LCg.lst vs ≠ o := fun e => by subst e; cases h
theorem lst_ne_tab {vs : List Value} {p : Array Value} : LCg.lst vs ≠ tabObj p := fun e => by cases e
theorem mem_cons2 {α : Type} {a : α} {l l' : List α} (h : ∀ q, q ∈ l → q ∈ l') : ∀ q, q ∈ a :: l → q ∈ a :: l' := allC (.head _) fun _ hq => .tail _ (h _ hq)
/-- the call, the ledger's parts unread -/
theorem callExch0 (w : World) (mean : ExcName → Option Value) (mg mb : Str → Option Value) (gb : Heap) (B : Base w mean mg mb gb) (A : Around) (rm : Room A 30) (Q : Value → Shared → Prop) (E : Value → Shared → Prop) (L Dg Dt : Addr) (gr ts : List (Addr × List Value)) (n : Nat) (len : Nat → Nat) (gS : Nat → List Str) (s : Shared) {m : Str → Option Value} (Bg K : List (Addr × Obj))
    (hgl : gr.length = n) (htl : ts.length = n) (hn : 1 ≤ n ∧ n ≤ 8) (hlen : ∀ i, i < n → len i ≤ 8) (hmono : ∀ i, i + 1 < n → len (i + 1) ≤ len i) (ndg : (gr.map (·.1)).Nodup) (ndt : (ts.map (·.1)).Nodup) (apt : ∀ g ∈ gr, ∀ t ∈ ts, g.1 ≠ t.1)
    (hstrs : ∀ (j : Nat) (g : Addr × List Value), gr[j]? = some g → StrsAre g.2 (gS j)) (hints : ∀ (j : Nat) (t : Addr × List Value), ts[j]? = some t → IntsAre t.2 ((gS j).map dpt)) (Sh : Shape n len gS (fun i => (gS i).map dpt))
    (F : Fr gb L s.heap m) (N : News gb L s.heap Bg) (mG : ∀ g ∈ gr, (g.1, LCg.lst g.2) ∈ Bg) (mT : ∀ t ∈ ts, (t.1, LCg.lst t.2) ∈ Bg) (mK : ∀ q, q ∈ K → q ∈ Bg) (kDg : (Dg, LCg.lst (gr.map fun g => Value.ref g.1)) ∈ K) (kDt : (Dt, LCg.lst (ts.map fun g => Value.ref g.1)) ∈ K)
    (offG : ∀ q, q ∈ K → ∀ g ∈ gr, g.1 ≠ q.1) (offT : ∀ q, q ∈ K → ∀ t ∈ ts, t.1 ≠ q.1) (pick : Int) (tp : Tok) (hp : 0 ≤ pick)
    (next : ∀ (k : Nat) (t : Tok) (gv' tv' : Nat → List Value) (gn' : Nat → List Str) (tn' : Nat → List Int) (more' : List (Addr × Obj)) (h' : Heap) (tk : Tok), Fr gb L h' m → News gb L h' (K ++ more') → RowsIn n (gaOf gr) (gaOf ts) gv' tv' gn' tn' more' →
      Steps n gS (fun i => (gS i).map dpt) k gn' tn' → (firstP tn' (n - 1) = [] ∨ 9 ≤ k) → Q (.int (k : Int) t) { s with heap := h', toks := tk }) :
    wpG (model PySem.Challenge.rw_xo0029_01.row.prog w) A (call (.ref 290) [.ref Dg, .ref Dt, .int pick tp]) Q E s := by
  have offH : ∀ a, (∀ g ∈ gr, g.1 ≠ a) → (∀ t ∈ ts, t.1 ≠ a) → a ∉ gr.map (·.1) ++ ts.map (·.1) := fun a h1 h2 ha =>
    (List.mem_append.mp ha).elim (fun h => (List.mem_map.mp h).elim fun g hg => h1 g hg.1 hg.2) fun h => (List.mem_map.mp h).elim fun t ht => h2 t ht.1 ht.2
  have inH : ∀ {P : Addr → Prop}, (∀ g ∈ gr, P g.1) → (∀ t ∈ ts, P t.1) → ∀ a, a ∈ gr.map (·.1) ++ ts.map (·.1) → P a := fun h1 h2 =>
    allA (fun a h => (List.mem_map.mp h).elim fun g hg => hg.2 ▸ h1 g hg.1) fun a h => (List.mem_map.mp h).elim fun t ht => ht.2 ▸ h2 t ht.1
  have inG : ∀ g ∈ gr, g.1 ∈ gr.map (·.1) ++ ts.map (·.1) := fun g hg => List.mem_append_left _ (List.mem_map.mpr ⟨g, hg, rfl⟩)
  have inT : ∀ t ∈ ts, t.1 ∈ gr.map (·.1) ++ ts.map (·.1) := fun g hg => List.mem_append_right _ (List.mem_map.mpr ⟨g, hg, rfl⟩)
  generalize gr.map (·.1) ++ ts.map (·.1) = hl at offH inH inG inT
  have fresh : ∀ a, a ∈ hl → gb.get? a = none := inH (fun g hg => (N _ (mG g hg)).2.2) fun t ht => (N _ (mT t ht)).2.2
  have hLh : L ∉ hl := offH L (fun g hg => (N _ (mG g hg)).2.1) fun t ht => (N _ (mT t ht)).2.1
  have kb : Grows gb (hideAll s.heap hl) := fun b o e => hideAll_get _ (F.keep b o e) fun hb => by rw [fresh b hb] at e; cases e
  have kK : ∀ q ∈ K, (hideAll s.heap hl).get? q.1 = some q.2 := fun q hq => hideAll_get _ (N q (mK q hq)).1 (offH _ (offG q hq) (offT q hq))
  have ha : Above (hideAll s.heap hl) s.heap ((gr.map fun g => (g.1, LCg.lst g.2)) ++ (ts.map fun t => (t.1, LCg.lst t.2))) :=
    allA (fun p hp => (List.mem_map.mp hp).elim fun g hg => hg.2 ▸ ⟨(N _ (mG g hg.1)).1, hideAll_none _ (inG g hg.1)⟩) fun p hp => (List.mem_map.mp hp).elim fun t ht => ht.2 ▸ ⟨(N _ (mT t ht.1)).1, hideAll_none _ (inT t ht.1)⟩
  have gI : ∀ i, i < n → gr[i]? = some (gr.getD i ((0 : Addr), [])) := fun i hi => getD_is (by omega)
  have tI : ∀ i, i < n → ts[i]? = some (ts.getD i ((0 : Addr), [])) := fun i hi => getD_is (by omega)
  have Z : Apart n (gaOf gr) (gaOf ts) := ⟨fun i j hi hj e => ga_inj ndg (by omega) (by omega) e, fun i j hi hj e => ga_inj ndt (by omega) (by omega) e, fun i j hi hj e => apt _ (List.mem_of_getElem? (gI i hi)) _ (List.mem_of_getElem? (tI j hj)) e⟩
  have R : RowsIn n (gaOf gr) (gaOf ts) (gvOf gr) (gvOf ts) gS (fun i => (gS i).map dpt) ((gr.map fun g => (g.1, LCg.lst g.2)) ++ (ts.map fun t => (t.1, LCg.lst t.2))) :=
    ⟨fun i hi => ⟨_, _, List.mem_append_left _ (List.mem_map.mpr ⟨_, List.mem_of_getElem? (gI i hi), rfl⟩), rfl, rfl⟩, fun i hi => ⟨_, _, List.mem_append_right _ (List.mem_map.mpr ⟨_, List.mem_of_getElem? (tI i hi), rfl⟩), rfl, rfl⟩, fun i hi => hstrs i _ (gI i hi), fun i hi => hints i _ (tI i hi)⟩
  refine fn_exch w mean mg mb Dg Dt n (gaOf gr) (gaOf ts) len pick tp hp hn hlen hmono Z (gvOf gr) (gvOf ts) _ _ Sh _ R A s Q E (hideAll s.heap hl) rm (B.keeps kb) (fun b o e => of_hideAll _ e) (Nat.le_of_eq (hideAll_size _ _)) ha ⟨_, kK _ kDg, rfl, _, by rw [← hgl, ← refs_is]⟩ ⟨_, kK _ kDt, rfl, _, by rw [← htl, ← refs_is]⟩ ?_
  rintro v h' tk' k' ⟨k, t, gv', tv', gn', tn', more', rfl, ab, R', St, fin⟩
  clear Z R ha
  refine next k t gv' tv' gn' tn' more' h' tk' ⟨F.ns.at' fun o e => k' _ _ (hideAll_get _ e hLh), fun b o e => k' _ _ (kb b o e), F.above⟩ (allA (fun q hq => ⟨k' _ _ (kK q hq), (N q (mK q hq)).2⟩) fun q hq => ⟨(ab q hq).1, fun e => ?_, ?_⟩) R' St fin
  · obtain ⟨o, es, ep, x, _⟩ := F.ns
    have h1 := hideAll_get hl x hLh
    have h2 := (ab q hq).2
    rw [e] at h2
    rw [show (hideAll s.heap hl).get? L = none from h2] at h1
    cases h1
  · cases e : gb.get? q.1 with
    | none => rfl
    | some o =>
      have h2 := (ab q hq).2
      rw [kb _ _ e] at h2
      cases h2
theorem callExch (w : World) (mean : ExcName → Option Value) (mg mb : Str → Option Value) (gb : Heap) (B : Base w mean mg mb gb) (A : Around) (rm : Room A 30) (Q : Value → Shared → Prop) (E : Value → Shared → Prop) (L D Dc Ds Dg Dt Db : Addr) (ds : List Int) (ys cs ss bs : List Value) (gr ts : List (Addr × List Value)) (o1 o2 o3 o4 : Obj) (tm : Tok) (nD nC nS nb : Nat) (p1 p2 : Array Value) (s : Shared) {m : Str → Option Value}
    (P : PartA ds D Dc Ds Dg ys cs ss gr) (hd1 : o1.data = .cell none) (hd2 : o2.data = .cell (some (.ref Ds))) (hd3 : o3.data = .cell (some (.ref Dc))) (hd4 : o4.data = .cell (some (.int (manyOf ds : Int) tm))) (PB : PartB L D Dc Ds Dg Dt Db o1 o2 o3 o4 ds ys cs ss nD nC nS gr ts p1 p2 bs)
    (F : Fr gb L s.heap m) (N : News gb L s.heap ((Db, srcO bs.toArray nb) :: ledB L D Dc Ds Dg Dt o1 o2 o3 o4 ys cs ss nD nC nS gr ts p1 p2)) (pick : Int) (tp : Tok) (hp : 0 ≤ pick)
    (next : ∀ (k : Nat) (t : Tok) (gv' tv' : Nat → List Value) (gn' : Nat → List Str) (tn' : Nat → List Int) (more' : List (Addr × Obj)) (h' : Heap) (tk : Tok), Fr gb L h' m → News gb L h' (ledK L D Dc Ds Dg Dt Db o1 o2 o3 o4 ys cs ss bs nD nC nS nb gr ts p1 p2 ++ more') → RowsIn (rowsN (manyOf ds)) (gaOf gr) (gaOf ts) gv' tv' gn' tn' more' →
      Steps (rowsN (manyOf ds)) (rowS (manyOf ds) (cellsOf ds)) (fun i => (rowS (manyOf ds) (cellsOf ds) i).map dpt) k gn' tn' → (firstP tn' (rowsN (manyOf ds) - 1) = [] ∨ 9 ≤ k) → Q (.int (k : Int) t) { s with heap := h', toks := tk }) :
    wpG (model PySem.Challenge.rw_xo0029_01.row.prog w) A (call (.ref 290) [.ref Dg, .ref Dt, .int pick tp]) Q E s := by
  have hm := many_in ds
  have hnr := rows8_n hm
  have mAB : ∀ q, q ∈ led10 L D Dc Ds Dg o1 o2 o3 o4 ys cs ss nD nC nS gr p1 p2 → q ∈ led10 L D Dc Ds Dg o1 o2 o3 o4 ys cs ss nD nC nS gr p1 p2 ++ ((gr.map fun g => (g.1, LCg.lst g.2)) ++ ts.map fun t => (t.1, LCg.lst t.2)) := fun q hq => List.mem_append_left _ hq
  have mK := mem_cons2 (a := (Db, srcO bs.toArray nb)) (mem_cons2 (a := (Dt, LCg.lst (ts.map fun t => Value.ref t.1))) mAB)
  have mG : ∀ g ∈ gr, (g.1, LCg.lst g.2) ∈ (Dt, LCg.lst (ts.map fun t => Value.ref t.1)) :: (led10 L D Dc Ds Dg o1 o2 o3 o4 ys cs ss nD nC nS gr p1 p2 ++ ((gr.map fun g => (g.1, LCg.lst g.2)) ++ ts.map fun t => (t.1, LCg.lst t.2))) := fun g hg => .tail _ (List.mem_append_right _ (List.mem_append_left _ (List.mem_map.mpr ⟨g, hg, rfl⟩)))
  have mT : ∀ t ∈ ts, (t.1, LCg.lst t.2) ∈ (Dt, LCg.lst (ts.map fun t => Value.ref t.1)) :: (led10 L D Dc Ds Dg o1 o2 o3 o4 ys cs ss nD nC nS gr p1 p2 ++ ((gr.map fun g => (g.1, LCg.lst g.2)) ++ ts.map fun t => (t.1, LCg.lst t.2))) := fun t ht => .tail _ (List.mem_append_right _ (List.mem_append_right _ (List.mem_map.mpr ⟨t, ht, rfl⟩)))
  have mA : ∀ g ∈ gr, (g.1, LCg.lst g.2) ∈ led10 L D Dc Ds Dg o1 o2 o3 o4 ys cs ss nD nC nS gr p1 p2 ++ (gr.map fun g => (g.1, LCg.lst g.2)) := fun g hg => List.mem_append_right _ (List.mem_map.mpr ⟨g, hg, rfl⟩)
  have ap : ∀ {a : Addr} {o : Obj}, (∀ vs, LCg.lst vs ≠ o) → (a, o) ∈ led10 L D Dc Ds Dg o1 o2 o3 o4 ys cs ss nD nC nS gr p1 p2 → ∀ g ∈ gr, g.1 ≠ a := fun hne hm g hg => apart2 N (.tail _ (mG g hg)) (mK _ (.tail _ (.tail _ hm))) (hne _)
  have offG : ∀ q, q ∈ led10 L D Dc Ds Dg o1 o2 o3 o4 ys cs ss nD nC nS gr p1 p2 → ∀ g ∈ gr, g.1 ≠ q.1 :=
    allC (fun g hg => (P.off g hg).1) (allC (fun g hg => (P.off g hg).2.2.2) (allC (fun g hg => (P.off g hg).2.2.1) (allC (fun g hg => (P.off g hg).2.1)
      (allC (ap (fun _ => lst_ne_cell hd4) (.tail _ (.tail _ (.tail _ (.tail _ (.head _)))))) (allC (ap (fun _ => lst_ne_cell hd3) (.tail _ (.tail _ (.tail _ (.tail _ (.tail _ (.head _))))))) (allC (ap (fun _ => lst_ne_cell hd2) (.tail _ (.tail _ (.tail _ (.tail _ (.tail _ (.tail _ (.head _)))))))) (allC (ap (fun _ => lst_ne_cell hd1) (.tail _ (.tail _ (.tail _ (.tail _ (.tail _ (.tail _ (.tail _ (.head _)))))))))
        (allC (ap (fun _ => lst_ne_tab) (.tail _ (.tail _ (.tail _ (.tail _ (.tail _ (.tail _ (.tail _ (.tail _ (.head _)))))))))) (allC (ap (fun _ => lst_ne_tab) (.tail _ (.tail _ (.tail _ (.tail _ (.tail _ (.tail _ (.tail _ (.tail _ (.tail _ (.head _))))))))))) allN)))))))))
  exact callExch0 w mean mg mb gb B A rm Q E L Dg Dt gr ts (rowsN (manyOf ds)) (rowN (manyOf ds)) (rowS (manyOf ds) (cellsOf ds)) s _ (ledK L D Dc Ds Dg Dt Db o1 o2 o3 o4 ys cs ss bs nD nC nS nb gr ts p1 p2) P.n PB.n ⟨hnr.2, by omega⟩ (fun i _ => Nat.le_trans rowN_le (by omega)) (row_mono hm) P.nd PB.nd
    (fun g hg t ht => (PB.off _ (mA g hg)).2 t ht) P.str PB.int ⟨fun i _ => rowN_is (cellsOf_n ds), fun i _ => by rw [List.length_map, rowN_is (cellsOf_n ds)], fun i _ x hx => cellsOf_in ds x (rowS_mem hx)⟩
    F N (fun g hg => .tail _ (mG g hg)) (fun t ht => .tail _ (mT t ht)) mK (.tail _ (.tail _ (.head _))) (.tail _ (.head _))
    (allC (fun g hg => PB.offb _ (mG g hg)) (allC (fun g hg => (PB.off _ (mA g hg)).1) offG)) (allC (fun t ht => PB.offb _ (mT t ht)) (allC (fun t ht => PB.ne t ht) fun q hq t ht e => (PB.off q (List.mem_append_left _ hq)).2 t ht e.symm)) pick tp hp next
end
section -- B4
set_option maxHeartbeats 600000
theorem words_B4_1 : True := by
  k_with_none
  w_top off
  k_with "fn_room" => ((refine roomUp (by assumption) rfl ?_ ?_ <;> ((try dsimp only [Around.deeper, Around.in1, Around.mark]); first | exact Nat.add_le_add_left (by decide) _ | exact upLe (by decide) | exact upLe2 (by decide) | omega)))
  k_with "call ref" => ((refine unstop ?_))
  k_with "storeName" => (((with_reducible show wpAny _ _ (storeName _ (Str.ofString "many") _) _ _ _); refine unstop ?_))
  k_with "storeName" => (((with_reducible show wpAny _ _ (storeName _ (Str.ofString "cells") _) _ _ _); refine unstop ?_))
  k_with "storeName" => (((with_reducible show wpAny _ _ (storeName _ (Str.ofString "signs") _) _ _ _); refine unstop ?_))
  k_with "storeName" => (((with_reducible show wpAny _ _ (storeName _ (Str.ofString "ended") _) _ _ _); refine unstop ?_))
  trivial
theorem law_d (w : World) (mean : ExcName → Option Value) (mg mb : Str → Option Value) (gb : Heap) (B : Base w mean mg mb gb) (A : Around) (rm : Room A 59) (Q : Flow → Shared → Prop) (E : Value → Shared → Prop) (l L D Dc Ds Dg Dt Dz Db : Addr) (ds : List Int) (ys cs ss bs : List Value) (gr ts : List (Addr × List Value)) (o1 o2 o3 o4 : Obj) (tm t1 t2 : Tok) (nD nC nS nb : Nat) (p1 p2 : Array Value) (s : Shared) (os₀ : OsState)
    (P : PartA ds D Dc Ds Dg ys cs ss gr) (hd1 : o1.data = .cell none) (hd2 : o2.data = .cell (some (.ref Ds))) (hd3 : o3.data = .cell (some (.ref Dc))) (hd4 : o4.data = .cell (some (.int (manyOf ds : Int) tm))) (PB : PartB L D Dc Ds Dg Dt Db o1 o2 o3 o4 ds ys cs ss nD nC nS gr ts p1 p2 bs)
    (F : Fr gb L s.heap (frC l D Dg Dt Dz Db ((cellsOf ds).map dpt) t1 t2)) (N : News gb L s.heap ((Db, srcO bs.toArray nb) :: ledB L D Dc Ds Dg Dt o1 o2 o3 o4 ys cs ss nD nC nS gr ts p1 p2)) (hst : Still os₀ s)
    (next : ∀ (k : Nat) (t : Tok) (gv' tv' : Nat → List Value) (gn' : Nat → List Str) (tn' : Nat → List Int) (more' : List (Addr × Obj)) (s' : Shared), Fr gb L s'.heap (fun y => if y = Str.ofString "moves" then some (.int (k : Int) t) else frC l D Dg Dt Dz Db ((cellsOf ds).map dpt) t1 t2 y) → News gb L s'.heap (ledK L D Dc Ds Dg Dt Db o1 o2 o3 o4 ys cs ss bs nD nC nS nb gr ts p1 p2 ++ more') → RowsIn (rowsN (manyOf ds)) (gaOf gr) (gaOf ts) gv' tv' gn' tn' more' →
      Steps (rowsN (manyOf ds)) (rowS (manyOf ds) (cellsOf ds)) (fun i => (rowS (manyOf ds) (cellsOf ds) i).map dpt) k gn' tn' → (firstP tn' (rowsN (manyOf ds) - 1) = [] ∨ 9 ≤ k) → Still os₀ s' →
      wpG (model PySem.Challenge.rw_xo0029_01.row.prog w) A (execs ((bodyAt w).drop 14) (envAt w L)) Q E s') :
    wpG (model PySem.Challenge.rw_xo0029_01.row.prog w) A (execs ((bodyAt w).drop 13) (envAt w L)) Q E s := by
  obtain ⟨hh, dp, fr, gd, un⟩ := A
  obtain ⟨g, gs, dr, tk, os⟩ := s
  obtain rfl : hh = none := rm.hh
  dsimp only at F N
  have X2 := Base.K B
  have T2 := Base.T B
  have hI := P.hI
  have hdn := P.hdn
  revert X2; k_fill; intro X2
  refine' segOpen (w := w) 13 ?ho ?hd ?_
  case ho => k_is
  case hd => exact rfl
  simp only [List.drop_succ_cons, List.drop_zero]
  refine gExecsCons (gAssignName ?_ (by rfl))
  refine gCallName ?_
  k_steps
  refine gCallWithK B (by k_is) (by rfl) (gArgs rfl (gAny ?_))
  k_steps
  refine gArg rfl (gAny ?_)
  k_steps
  refine gArg rfl (gAny ?_)
  k_steps
  refine gSplicedNil ⟨Fr.keep (by assumption), ?_⟩
  have h0 : 0 ≤ (ds.getD 8 0).fdiv 27 := Int.fdiv_nonneg (P.hdp _ (by rw [List.getD_eq_getElem?_getD, List.getElem?_eq_getElem (by omega)]; exact List.getElem_mem _)) (by decide)
  refine callExch w mean mg mb gb B _ (by walk_at "fn_room") _ _ L D Dc Ds Dg Dt Db ds ys cs ss bs gr ts o1 o2 o3 o4 tm nD nC nS nb p1 p2 _ P hd1 hd2 hd3 hd4 PB (m := frC l D Dg Dt Dz Db ((cellsOf ds).map dpt) t1 t2) F N _ _ h0 fun k t gv' tv' gn' tn' more' h' tk' F1 N1 R St fin => ?_
  clear F N hI
  (try dsimp only)
  k_steps
  (try dsimp only)
  (with_reducible rename Fr _ _ _ _ => F12); (with_reducible rename News _ _ _ _ => N12)
  refine' segShut (w := w) 14 ?ho ?hd ?_
  case ho => k_is
  case hd => rfl
  exact next k t gv' tv' gn' tn' more' _ F12 N12 R St fin hst
end
section -- B5a
set_option maxHeartbeats 400000
theorem flatF_ints {tv : Nat → List Value} {tn : Nat → List Int} : ∀ n, (∀ i, i < n → IntsAre (tv i) (tn i)) → IntsAre ((List.range n).flatMap tv) ((List.range n).flatMap tn)
  | 0, _ => .nil
  | n + 1, h => by
    rw [List.range_succ, List.flatMap_append, List.flatMap_append]
    exact IntsAre.append (flatF_ints n fun i hi => h i (by omega)) (by simpa using h n (by omega))
theorem flatF_strs {tv : Nat → List Value} {tn : Nat → List Str} : ∀ n, (∀ i, i < n → StrsAre (tv i) (tn i)) → StrsAre ((List.range n).flatMap tv) ((List.range n).flatMap tn)
  | 0, _ => .nil
  | n + 1, h => by
    rw [List.range_succ, List.flatMap_append, List.flatMap_append]
    exact StrsAre.append (flatF_strs n fun i hi => h i (by omega)) (by simpa using h n (by omega))
theorem flatF_le {α : Type} {f : Nat → List α} : ∀ n i, i < n → (f i).length ≤ ((List.range n).flatMap f).length
  | n + 1, i, h => by
    rw [List.range_succ, List.flatMap_append, List.length_append]
    by_cases hi : i < n
    · have := flatF_le (f := f) n i hi
      omega
    · obtain rfl : i = n := by omega
      simp
noncomputable abbrev rowsL (n : Nat) (ga : Nat → Addr) (gv : Nat → List Value) : List (Addr × List Value) := (List.range n).map fun i => (ga i, gv i)
theorem rowsL_flat (n : Nat) (ga : Nat → Addr) (gv : Nat → List Value) : (rowsL n ga gv).flatMap (·.2) = (List.range n).flatMap gv := by
  unfold rowsL
  rw [List.flatMap_map]
theorem rowsL_refs {n : Nat} {gs : List (Addr × List Value)} (h : gs.length = n) (gv : Nat → List Value) : (rowsL n (gaOf gs) gv).map (fun r => Value.ref r.1) = gs.map fun g => Value.ref g.1 := by
  rw [refs_is gs, h]
  unfold rowsL
  rw [List.map_map]
  rfl
theorem layS : ∀ ns : List Str, (∀ x ∈ ns, PyData.strOk x = true) → PyData.canLayAll0 (ns.map PyData.str) = true
  | [], _ => rfl
  | x :: r, h => by
    rw [List.map_cons]
    show (PyData.canLay0 (.str x) && PyData.canLayAll0 (r.map PyData.str)) = true
    rw [layS r fun y hy => h y (.tail _ hy), Bool.and_true]
    exact h x (.head _)
theorem depS : ∀ ns : List Str, PyData.depthAll (ns.map PyData.str) = 0
  | [] => rfl
  | _ :: r => by simp [PyData.depthAll, PyData.depth, depS r]
theorem shapedS (ns : List Str) (h : ∀ x ∈ ns, PyData.strOk x = true) : PySem.SeqAt.shaped (.list (ns.map PyData.str)) = true := by
  simp [PySem.SeqAt.shaped, PyData.canLay0, PyData.depth, layS ns h, depS]
theorem carS : ∀ {vs : List Value} {ns : List Str}, StrsAre vs ns → CarriedAll vs (ns.map PyData.str) := by
  intro vs ns h
  induction h with
  | nil => exact .nil
  | cons _ t _ ih => exact .cons (.str _ t) ih
/-- two lists of texts, held against each other -/
theorem ke_eq_strs {prog : Program} {w : World} {A : Around} {E : Value → Shared → Prop} {s : Shared} {a b : Addr} {xs ys : List Value} {ns ms : List Str} {Q : Value → Shared → Prop} (ha : s.heap.IsList a xs.toArray) (hb : s.heap.IsList b ys.toArray) (hi : StrsAre xs ns) (hj : StrsAre ys ms) (hok : ∀ x ∈ ns, PyData.strOk x = true) (hu : A.units + 64 < cLine) (he : ns = ms) (h : Q (.bool true) s) :
    wpAny (model prog w) A (compareOp .Eq (.ref a) (.ref b)) Q E s := by
  subst he
  have hl : PyData.canLay0 (.list (ns.map PyData.str)) = true := layS ns hok
  refine eq_dataH (reads_newData ha (carS hi)) (reads_newData hb (carS hj)) (shapedS ns hok) (shapedS ns hok) hu ?_
  rw [show PyData.eqv (.list (ns.map PyData.str)) (.list (ns.map PyData.str)) = true from PySem.SeqAt.eqv_refl _ hl]
  exact h
end
section -- PL
set_option maxHeartbeats 4000000
theorem ng_sg (b : Bool) : ng (sg b) = b := by cases b <;> rfl
theorem ng_map (l : List Bool) : (l.map sg).map ng = l := by
  rw [List.map_map]
  exact (List.map_congr_left fun b _ => ng_sg b).trans (List.map_id' l)
theorem sg_of {T : List Int} (hs : ∀ x ∈ T, x = 1 ∨ x = -1) : T = (T.map ng).map sg := by
  rw [List.map_map]
  refine ((List.map_congr_left fun x hx => ?_).trans (List.map_id' T)).symm
  rcases hs x hx with rfl | rfl <;> rfl
noncomputable def nb : List Bool → Nat
  | [] => 0
  | true :: l => nb l + 1
  | false :: l => nb l
theorem nb_is : ∀ l : List Bool, List.count (-1) (l.map sg) = nb l
  | [] => rfl
  | true :: l => by
    rw [List.map_cons, show sg true = -1 from rfl, List.count_cons_self, nb_is l]
    rfl
  | false :: l => by
    rw [List.map_cons, List.count_cons_of_ne (by decide), nb_is l]
    rfl
/-- the columns' order, of truth values -/
noncomputable def srtB : Nat → List Bool → List Bool
  | 2, [a, b, c, d, e, f, g, h] => let x := nb [a, c, e, g]; let y := nb [b, d, f, h]
    [Nat.blt 0 x, Nat.blt 0 y, Nat.blt 1 x, Nat.blt 1 y, Nat.blt 2 x, Nat.blt 2 y, Nat.blt 3 x, Nat.blt 3 y]
  | 3, [a, b, c, d, e, f, g, h] => let x := nb [a, d, g]; let y := nb [b, e, h]; let z := nb [c, f]
    [Nat.blt 0 x, Nat.blt 0 y, Nat.blt 0 z, Nat.blt 1 x, Nat.blt 1 y, Nat.blt 1 z, Nat.blt 2 x, Nat.blt 2 y]
  | 4, [a, b, c, d, e, f, g, h] => let x := nb [a, e]; let y := nb [b, f]; let z := nb [c, g]; let u := nb [d, h]
    [Nat.blt 0 x, Nat.blt 0 y, Nat.blt 0 z, Nat.blt 0 u, Nat.blt 1 x, Nat.blt 1 y, Nat.blt 1 z, Nat.blt 1 u]
  | _, _ => []
theorem srt_b {ss : List Int} {m k : Int} {j : Nat} {col : List Bool} (h1 : k.fdiv m = (j : Int)) (h2 : pickNums ss (some (k.fmod m)) none (some m) = col.map sg) : srt ss m k = sg (Nat.blt j (nb col)) := by
  unfold srt
  rw [h1, h2, nb_is]
  by_cases h : j < nb col
  · rw [if_pos (by omega), show Nat.blt j (nb col) = true from by simpa using h]
    rfl
  · rw [if_neg (by omega), show Nat.blt j (nb col) = false from Bool.eq_false_iff.mpr fun e => h (by simpa using e)]
    rfl
theorem srtL_sg {m : Nat} (hm : m = 2 ∨ m = 3 ∨ m = 4) {l : List Bool} (hn : l.length = 8) : srtL m (l.map sg) = (srtB m l).map sg := by
  refine list8 (P := fun l => srtL m (l.map sg) = (srtB m l).map sg) (fun a b c d e f g h => ?_) l hn
  ·
    rcases hm with rfl | rfl | rfl
    · have k0 := srt_b (ss := [a, b, c, d, e, f, g, h].map sg) (m := 2) (k := 0) (j := 0) (col := [a, c, e, g]) rfl (by kernel_rfl)
      have k1 := srt_b (ss := [a, b, c, d, e, f, g, h].map sg) (m := 2) (k := 1) (j := 0) (col := [b, d, f, h]) rfl (by kernel_rfl)
      have k2 := srt_b (ss := [a, b, c, d, e, f, g, h].map sg) (m := 2) (k := 2) (j := 1) (col := [a, c, e, g]) rfl (by kernel_rfl)
      have k3 := srt_b (ss := [a, b, c, d, e, f, g, h].map sg) (m := 2) (k := 3) (j := 1) (col := [b, d, f, h]) rfl (by kernel_rfl)
      have k4 := srt_b (ss := [a, b, c, d, e, f, g, h].map sg) (m := 2) (k := 4) (j := 2) (col := [a, c, e, g]) rfl (by kernel_rfl)
      have k5 := srt_b (ss := [a, b, c, d, e, f, g, h].map sg) (m := 2) (k := 5) (j := 2) (col := [b, d, f, h]) rfl (by kernel_rfl)
      have k6 := srt_b (ss := [a, b, c, d, e, f, g, h].map sg) (m := 2) (k := 6) (j := 3) (col := [a, c, e, g]) rfl (by kernel_rfl)
      have k7 := srt_b (ss := [a, b, c, d, e, f, g, h].map sg) (m := 2) (k := 7) (j := 3) (col := [b, d, f, h]) rfl (by kernel_rfl)
      show [srt _ 2 0, srt _ 2 1, srt _ 2 2, srt _ 2 3, srt _ 2 4, srt _ 2 5, srt _ 2 6, srt _ 2 7] = _
      rw [k0, k1, k2, k3, k4, k5, k6, k7]
      rfl
    · have k0 := srt_b (ss := [a, b, c, d, e, f, g, h].map sg) (m := 3) (k := 0) (j := 0) (col := [a, d, g]) rfl (by kernel_rfl)
      have k1 := srt_b (ss := [a, b, c, d, e, f, g, h].map sg) (m := 3) (k := 1) (j := 0) (col := [b, e, h]) rfl (by kernel_rfl)
      have k2 := srt_b (ss := [a, b, c, d, e, f, g, h].map sg) (m := 3) (k := 2) (j := 0) (col := [c, f]) rfl (by kernel_rfl)
      have k3 := srt_b (ss := [a, b, c, d, e, f, g, h].map sg) (m := 3) (k := 3) (j := 1) (col := [a, d, g]) rfl (by kernel_rfl)
      have k4 := srt_b (ss := [a, b, c, d, e, f, g, h].map sg) (m := 3) (k := 4) (j := 1) (col := [b, e, h]) rfl (by kernel_rfl)
      have k5 := srt_b (ss := [a, b, c, d, e, f, g, h].map sg) (m := 3) (k := 5) (j := 1) (col := [c, f]) rfl (by kernel_rfl)
      have k6 := srt_b (ss := [a, b, c, d, e, f, g, h].map sg) (m := 3) (k := 6) (j := 2) (col := [a, d, g]) rfl (by kernel_rfl)
      have k7 := srt_b (ss := [a, b, c, d, e, f, g, h].map sg) (m := 3) (k := 7) (j := 2) (col := [b, e, h]) rfl (by kernel_rfl)
      show [srt _ 3 0, srt _ 3 1, srt _ 3 2, srt _ 3 3, srt _ 3 4, srt _ 3 5, srt _ 3 6, srt _ 3 7] = _
      rw [k0, k1, k2, k3, k4, k5, k6, k7]
      rfl
    · have k0 := srt_b (ss := [a, b, c, d, e, f, g, h].map sg) (m := 4) (k := 0) (j := 0) (col := [a, e]) rfl (by kernel_rfl)
      have k1 := srt_b (ss := [a, b, c, d, e, f, g, h].map sg) (m := 4) (k := 1) (j := 0) (col := [b, f]) rfl (by kernel_rfl)
      have k2 := srt_b (ss := [a, b, c, d, e, f, g, h].map sg) (m := 4) (k := 2) (j := 0) (col := [c, g]) rfl (by kernel_rfl)
      have k3 := srt_b (ss := [a, b, c, d, e, f, g, h].map sg) (m := 4) (k := 3) (j := 0) (col := [d, h]) rfl (by kernel_rfl)
      have k4 := srt_b (ss := [a, b, c, d, e, f, g, h].map sg) (m := 4) (k := 4) (j := 1) (col := [a, e]) rfl (by kernel_rfl)
      have k5 := srt_b (ss := [a, b, c, d, e, f, g, h].map sg) (m := 4) (k := 5) (j := 1) (col := [b, f]) rfl (by kernel_rfl)
      have k6 := srt_b (ss := [a, b, c, d, e, f, g, h].map sg) (m := 4) (k := 6) (j := 1) (col := [c, g]) rfl (by kernel_rfl)
      have k7 := srt_b (ss := [a, b, c, d, e, f, g, h].map sg) (m := 4) (k := 7) (j := 1) (col := [d, h]) rfl (by kernel_rfl)
      show [srt _ 4 0, srt _ 4 1, srt _ 4 2, srt _ 4 3, srt _ 4 4, srt _ 4 5, srt _ 4 6, srt _ 4 7] = _
      rw [k0, k1, k2, k3, k4, k5, k6, k7]
      rfl
noncomputable def allB : Nat → List (List Bool)
  | 0 => [[]]
  | n + 1 => (allB n).map (false :: ·) ++ (allB n).map (true :: ·)
theorem mem_allB : ∀ (n : Nat) (l : List Bool), l.length = n → l ∈ allB n := by
  intro n
  induction n with
  | zero => exact len0 (.head _)
  | succ n ih =>
    refine lenS fun x l h => ?_
    have hl := ih l h
    cases x
    · exact List.mem_append_left _ (List.mem_map_of_mem hl)
    · exact List.mem_append_right _ (List.mem_map_of_mem hl)
noncomputable def at0 (l : List Bool) (p : Nat) : Bool := match l, p with
  | [], _ => true
  | b :: _, 0 => b
  | _ :: l, p + 1 => at0 l p
noncomputable def setB : List Bool → Nat → Bool → List Bool
  | [], _, _ => []
  | _ :: l, 0, v => v :: l
  | b :: l, p + 1, v => b :: setB l p v
theorem setB_is : ∀ (l : List Bool) (p : Nat) (v : Bool), setB l p v = l.set p v
  | [], _, _ => rfl
  | _ :: _, 0, _ => rfl
  | b :: l, p + 1, v => by rw [List.set_cons_succ, ← setB_is l p v]; rfl
theorem at0_is : ∀ (l : List Bool) (p : Nat), l[p]? = some (at0 l p) ∨ l.length ≤ p
  | [], _ => .inr (Nat.zero_le _)
  | _ :: _, 0 => .inl rfl
  | _ :: l, p + 1 => by
    rcases at0_is l p with h | h
    · exact .inl (by rw [List.getElem?_cons_succ]; exact h)
    · exact .inr (by rw [List.length_cons]; omega)
noncomputable def eqB : List Bool → List Bool → Bool
  | [], [] => true
  | a :: l, b :: k => match a, b with
    | true, true => eqB l k
    | false, false => eqB l k
    | _, _ => false
  | _, _ => false
theorem eqB_eq : ∀ {l k : List Bool}, eqB l k = true → l = k
  | [], [], _ => rfl
  | true :: l, true :: k, h => by rw [eqB_eq (l := l) (k := k) h]
  | false :: l, false :: k, h => by rw [eqB_eq (l := l) (k := k) h]
  | true :: _, false :: _, h => by cases h
  | false :: _, true :: _, h => by cases h
  | [], _ :: _, h => by cases h
  | _ :: _, [], h => by cases h
/-- a pair that is turned about, at one place -/
noncomputable def stepB (m p : Nat) (l : List Bool) : Bool := match at0 l p, at0 l (p + m) with
  | false, true => (fun k => Nat.beq (invB m k + 1) (invB m l) && eqB (srtB m k) (srtB m l)) (setB (setB l p true) (p + m) false)
  | _, _ => true
noncomputable def placesOf (m : Nat) : List Nat := List.range (8 - m)
noncomputable def restB (m : Nat) (l : List Bool) : Bool := (placesOf m).all fun p => match at0 l p, at0 l (p + m) with
  | false, true => false
  | _, _ => true
noncomputable def endB (m : Nat) (l : List Bool) : Bool := match restB m l with
  | true => Nat.beq (invB m l) 0 && eqB (srtB m l) l
  | false => true
noncomputable def begB (l : List Bool) : Bool :=
  (fun ss => (fun lx ly => (fun H => [2, 3, 4].all (fun m => Nat.ble (invB m l) 8 && Nat.beq ((H.filter fun h : Int => h.fmod m == 0).length) (invB m l) && Nat.beq (rowsOf ss).sum ((rowsOf ((srtB m l).map sg)).sum + m * invB m l)) && lx.all (fun a => decide (a ≤ (ly.length : Int)))) (firstH lx ly lx.length))
    ((rowsOf ss).map fun (k : Nat) => (k : Int)) ((rowsOf (ss.map (- ·)).reverse).map fun (k : Nat) => (k : Int)).reverse) (l.map sg)
theorem pl_step : (allB 8).all (fun l => [2, 3, 4].all fun m => (placesOf m).all fun p => stepB m p l) = true := by decide +kernel
theorem pl_end : (allB 8).all (fun l => [2, 3, 4].all fun m => endB m l) = true := by decide +kernel
theorem pl_beg : (allB 8).all begB = true := by decide +kernel
end
section -- Y6
set_option maxHeartbeats 400000
theorem flatMap_same {α β : Type} {f g : α → List β} : ∀ {l : List α}, (∀ r ∈ l, f r = g r) → l.flatMap f = l.flatMap g
  | [], _ => rfl
  | a :: l, h => by rw [List.flatMap_cons, List.flatMap_cons, h a (.head _), flatMap_same fun r hr => h r (.tail _ hr)]
theorem firstP_congr {f g : Nat → List Int} {n : Nat} (h : ∀ i, i ≤ n → f i = g i) : firstP f n = firstP g n := by
  unfold firstP
  refine flatMap_same fun r hr => ?_
  have hlt := List.mem_range.mp hr
  unfold rowP
  rw [h r (by omega), h (r + 1) (by omega)]
theorem mem234 {m : Nat} (h : m = 2 ∨ m = 3 ∨ m = 4) : m ∈ [2, 3, 4] := by rcases h with rfl | rfl | rfl <;> decide
theorem below_row {m r c i : Nat} (hc : c < m) (hir : i ≠ r) (h : ¬ m * r + c < m * i) : i < r := by
  rcases Nat.lt_or_gt_of_ne hir with h1 | h1
  · exact h1
  · exact absurd (Nat.lt_of_lt_of_le (Nat.add_lt_add_left hc (m * r)) (Nat.mul_le_mul_left m h1)) h
theorem rows_set {α : Type} {m r c : Nat} (hm : m = 2 ∨ m = 3 ∨ m = 4) (hc : c < m) (T : List α) (v : α) (i : Nat) : rowS m (T.set (m * r + c) v) i = if i = r then (rowS m T r).set c v else rowS m T i := by
  unfold rowS
  rw [List.drop_set]
  by_cases hir : i = r
  · subst hir
    rw [if_neg (Nat.not_lt.mpr (Nat.le_add_right _ _)), if_pos rfl, List.take_set, Nat.add_sub_cancel_left]
  · rw [if_neg hir]
    by_cases hlt : m * r + c < m * i
    · rw [if_pos hlt]
    · rw [if_neg hlt, List.take_set]
      refine List.set_eq_of_length_le ?_
      refine Nat.le_trans (List.length_take_le _ _) ?_
      have hlr := Nat.mul_le_mul_left m (below_row hc hir hlt)
      exact Nat.le_sub_of_add_le (Nat.le_trans (Nat.le_of_eq (Nat.add_comm m (m * i))) (Nat.le_trans hlr (Nat.le_add_right _ c)))
theorem rows_get {α : Type} {m r c : Nat} (hc : c < m) (T : List α) : (rowS m T r)[c]? = T[m * r + c]? := by
  unfold rowS
  rw [List.getElem?_take, if_pos hc, List.getElem?_drop]
theorem upd2 {α : Type} {m r c n : Nat} (hm : m = 2 ∨ m = 3 ∨ m = 4) (hc : c < m) {t : Nat → List α} {T : List α} (ht : ∀ i, i < n → t i = rowS m T i) (hr : r + 1 < n) (v1 v2 : α) : ∀ i, i < n → upd (upd t r c v1) (r + 1) c v2 i = rowS m ((T.set (m * r + c) v1).set (m * r + c + m) v2) i := fun i hi => by
  have e : m * r + c + m = m * (r + 1) + c := by rw [Nat.mul_add, Nat.mul_one, Nat.add_right_comm]
  rw [e, rows_set hm hc, rows_set hm hc, rows_set hm hc]
  unfold upd
  by_cases h1 : i = r + 1
  · rw [if_pos h1, if_pos h1, if_neg (Nat.succ_ne_self r), if_neg (Nat.succ_ne_self r), ht _ hr]
  · rw [if_neg h1, if_neg h1]
    by_cases h2 : i = r
    · rw [if_pos h2, if_pos h2, ht _ (by omega)]
    · rw [if_neg h2, if_neg h2, ht i hi]
/-- the state of both lists -/
structure Mid (m : Nat) (xs : List Str) (k : Nat) (g : Nat → List Str) (t : Nat → List Int) (X : List Str) : Prop where
  len : X.length = 8
  cel : ∀ x ∈ X, x ∈ cellsL
  gr : ∀ i, i < rowsN m → g i = rowS m X i
  tr : ∀ i, i < rowsN m → t i = rowS m (X.map dpt) i
  inv : invs m (X.map dpt) + k = invs m (xs.map dpt)
  srt : srtL m (X.map dpt) = srtL m (xs.map dpt)
  alt : ∀ (j : Nat) (x u : Str), X[j]? = some x → xs[j]? = some u → x = u ∨ x = rvs u
theorem dpts {X : List Str} (h : ∀ x ∈ X, x ∈ cellsL) : ∀ y ∈ X.map dpt, y = 1 ∨ y = -1 := fun y hy => by
  obtain ⟨x, hx, rfl⟩ := List.mem_map.mp hy
  exact (dpt_of (h x hx)).1
theorem bools_of {T : List Int} (hn : T.length = 8) : (T.map ng).length = 8 := by rw [List.length_map, hn]
theorem at0_get {T : List Int} (hs : ∀ x ∈ T, x = 1 ∨ x = -1) {p : Nat} (hp : p < T.length) : T.getD p 0 = sg (at0 (T.map ng) p) := by
  rcases at0_is (T.map ng) p with h | h
  · rw [List.getD_eq_getElem?_getD]
    conv => lhs; rw [sg_of hs]
    rw [List.getElem?_map, h]
    rfl
  · rw [List.length_map] at h
    omega
theorem step_facts {m : Nat} (hm : m = 2 ∨ m = 3 ∨ m = 4) {T : List Int} (hn : T.length = 8) (hs : ∀ x ∈ T, x = 1 ∨ x = -1) {r c : Nat} (hrc : (r, c) ∈ firstP (rowS m T) (rowsN m - 1)) :
    (T.getD (m * r + c) 0 = 1 ∧ T.getD (m * r + c + m) 0 = -1) ∧ (invs m ((T.set (m * r + c) (-1)).set (m * r + c + m) 1) + 1 = invs m T ∧ srtL m ((T.set (m * r + c) (-1)).set (m * r + c + m) 1) = srtL m T) ∧ c < m ∧ r + 1 < rowsN m := by
  obtain ⟨hm2, hm4⟩ := two4 hm
  unfold firstP at hrc
  obtain ⟨q, hq, hq2⟩ := List.mem_flatMap.mp hrc
  have hq1 := List.mem_range.mp hq
  unfold rowP at hq2
  obtain ⟨c', hc', e⟩ := List.mem_map.mp hq2
  obtain ⟨rfl, rfl⟩ : q = r ∧ c' = c := ⟨congrArg Prod.fst e, congrArg Prod.snd e⟩
  obtain ⟨hl, hgt⟩ := List.mem_filter.mp hc'
  have hl := List.mem_range.mp hl
  have hgt := of_decide_eq_true hgt
  have hcm : c' < m := Nat.lt_of_lt_of_le hl rowS_le
  have hmul : m * (q + 1) = m * q + m := by rw [Nat.mul_add, Nat.mul_one]
  have h8 : m * q + c' + m < 8 := by
    have : (rowS m T (q + 1)).length ≤ 8 - m * (q + 1) := by
      unfold rowS
      rw [List.length_take, List.length_drop, hn]
      exact Nat.min_le_right _ _
    have h1 := Nat.add_lt_of_lt_sub (Nat.lt_of_lt_of_le hl this)
    rw [hmul, ← Nat.add_assoc, Nat.add_comm c'] at h1
    exact h1
  have g1 : (rowS m T q).getD c' 0 = T.getD (m * q + c') 0 := by rw [List.getD_eq_getElem?_getD, rows_get hcm, ← List.getD_eq_getElem?_getD]
  have g2 : (rowS m T (q + 1)).getD c' 0 = T.getD (m * q + c' + m) 0 := by rw [List.getD_eq_getElem?_getD, rows_get hcm, ← List.getD_eq_getElem?_getD, hmul]; congr 1; exact Nat.add_right_comm _ _ _
  rw [g1, g2] at hgt
  have a1 := at0_get hs (p := m * q + c') (by omega)
  have a2 := at0_get hs (p := m * q + c' + m) (by omega)
  rw [a1, a2] at hgt
  have b1 : at0 (T.map ng) (m * q + c') = false ∧ at0 (T.map ng) (m * q + c' + m) = true := by
    revert hgt
    cases at0 (T.map ng) (m * q + c') <;> cases at0 (T.map ng) (m * q + c' + m) <;> simp [sg]
  have h := mem_all pl_step (mem_allB 8 _ (bools_of hn))
  have h := mem_all (mem_all h (mem234 hm)) (show m * q + c' ∈ placesOf m from List.mem_range.mpr (by omega))
  unfold stepB at h
  rw [b1.1, b1.2] at h
  obtain ⟨s1, s2⟩ := Bool.and_eq_true_iff.mp h
  have eT : (T.set (m * q + c') (-1)).set (m * q + c' + m) 1 = (setB (setB (T.map ng) (m * q + c') true) (m * q + c' + m) false).map sg := by
    rw [setB_is, setB_is, List.map_set, List.map_set, ← sg_of hs]
    rfl
  refine ⟨⟨by rw [a1, b1.1]; rfl, by rw [a2, b1.2]; rfl⟩, ⟨?_, ?_⟩, hcm, by omega⟩
  · rw [eT]
    unfold invs
    rw [ng_map]
    exact Nat.eq_of_beq_eq_true s1
  · have hT : srtL m T = srtL m ((T.map ng).map sg) := by rw [← sg_of hs]
    rw [eT, hT, srtL_sg hm (by rw [setB_is, setB_is, List.length_set, List.length_set, bools_of hn]), srtL_sg hm (bools_of hn), eqB_eq s2]
theorem end_facts {m : Nat} (hm : m = 2 ∨ m = 3 ∨ m = 4) {T : List Int} (hn : T.length = 8) (hs : ∀ x ∈ T, x = 1 ∨ x = -1) (he : firstP (rowS m T) (rowsN m - 1) = []) : invs m T = 0 ∧ srtL m T = T := by
  obtain ⟨hm2, hm4⟩ := two4 hm
  have hrest : restB m (T.map ng) = true := by
    unfold restB
    refine List.all_eq_true.mpr fun p hp => ?_
    have hp := List.mem_range.mp hp
    cases e1 : at0 (T.map ng) p with
    | true => rfl
    | false =>
      cases e2 : at0 (T.map ng) (p + m) with
      | false => rfl
      | true =>
        exfalso
        have a1 := at0_get hs (p := p) (by omega)
        have a2 := at0_get hs (p := p + m) (by omega)
        rw [e1] at a1
        rw [e2] at a2
        have hdm := Nat.div_add_mod p m
        have hcm : p % m < m := Nat.mod_lt _ (by omega)
        have hmul : m * (p / m + 1) = m * (p / m) + m := by rw [Nat.mul_add, Nat.mul_one]
        have hr : p / m < rowsN m - 1 := by
          rcases hm with rfl | rfl | rfl
          · show p / 2 < 3; omega
          · show p / 3 < 2; omega
          · show p / 4 < 1; omega
        have g1 : (rowS m T (p / m)).getD (p % m) 0 = T.getD p 0 := by rw [List.getD_eq_getElem?_getD, rows_get hcm, ← List.getD_eq_getElem?_getD, hdm]
        have g2 : (rowS m T (p / m + 1)).getD (p % m) 0 = T.getD (p + m) 0 := by rw [List.getD_eq_getElem?_getD, rows_get hcm, ← List.getD_eq_getElem?_getD, hmul]; congr 1; omega
        have hlen : p % m < (rowS m T (p / m + 1)).length := by
          have : (rowS m T (p / m + 1))[p % m]? = some T[p + m] := by
            rw [rows_get hcm, show m * (p / m + 1) + p % m = p + m by omega]
            exact List.getElem?_eq_getElem (by omega)
          exact (List.getElem?_eq_some_iff.mp this).1
        have hin : (p / m, p % m) ∈ firstP (rowS m T) (rowsN m - 1) := by
          unfold firstP
          refine List.mem_flatMap.mpr ⟨p / m, List.mem_range.mpr hr, ?_⟩
          unfold rowP
          refine List.mem_map.mpr ⟨p % m, List.mem_filter.mpr ⟨List.mem_range.mpr hlen, decide_eq_true ?_⟩, rfl⟩
          rw [g1, g2, a1, a2]
          decide
        rw [he] at hin
        cases hin
  have h := mem_all (mem_all pl_end (mem_allB 8 _ (bools_of hn))) (mem234 hm)
  unfold endB at h
  rw [hrest] at h
  obtain ⟨s1, s2⟩ := Bool.and_eq_true_iff.mp h
  refine ⟨Nat.eq_of_beq_eq_true s1, ?_⟩
  have hT : srtL m T = srtL m ((T.map ng).map sg) := by rw [← sg_of hs]
  rw [hT, srtL_sg hm (bools_of hn), eqB_eq s2, ← sg_of hs]
theorem beg_facts {m : Nat} (hm : m = 2 ∨ m = 3 ∨ m = 4) {S : List Int} (hn : S.length = 8) (hs : ∀ x ∈ S, x = 1 ∨ x = -1) : invs m S ≤ 8 ∧ (((firstH ((rowsOf S).map fun (k : Nat) => (k : Int)) ((rowsOf (S.map (- ·)).reverse).map fun (k : Nat) => (k : Int)).reverse ((rowsOf S).map fun (k : Nat) => (k : Int)).length).filter fun h => h.fmod m == 0).length) = invs m S ∧
    (rowsOf S).sum = (rowsOf (srtL m S)).sum + m * invs m S ∧ ∀ a ∈ (rowsOf S).map (fun (k : Nat) => (k : Int)), a ≤ ((((rowsOf (S.map (- ·)).reverse).map fun (k : Nat) => (k : Int)).reverse).length : Int) := by
  have h := mem_all pl_beg (mem_allB 8 _ (bools_of hn))
  unfold begB at h
  rw [← sg_of hs] at h
  obtain ⟨h1, h2⟩ := Bool.and_eq_true_iff.mp h
  have h1 := mem_all h1 (mem234 hm)
  simp only [Bool.and_eq_true] at h1
  have hT : srtL m S = (srtB m (S.map ng)).map sg := by
    conv => lhs; rw [sg_of hs]
    exact srtL_sg hm (bools_of hn)
  refine ⟨Nat.le_of_ble_eq_true h1.1.1, Nat.eq_of_beq_eq_true h1.1.2, ?_, fun a ha => of_decide_eq_true (mem_all h2 ha)⟩
  rw [hT]
  exact Nat.eq_of_beq_eq_true h1.2
theorem mid_of {m : Nat} (hm : m = 2 ∨ m = 3 ∨ m = 4) {xs : List Str} (hn : xs.length = 8) (hx : ∀ x ∈ xs, x ∈ cellsL) {k : Nat} {g : Nat → List Str} {t : Nat → List Int} (St : Steps (rowsN m) (rowS m xs) (fun i => (rowS m xs i).map dpt) k g t) : ∃ X, Mid m xs k g t X := by
  induction St with
  | refl => exact ⟨xs, hn, hx, fun _ _ => rfl, fun i _ => rowS_map dpt, rfl, rfl, fun j x u e1 e2 => .inl (by rw [e1] at e2; exact Option.some.inj e2)⟩
  | @step k g t r c x y _ hrc hgx hgy ih =>
    obtain ⟨X, M⟩ := ih
    have hT8 : (X.map dpt).length = 8 := by rw [List.length_map, M.len]
    have hnr := rows8_n hm
    obtain ⟨hm2, hm4⟩ := two4 hm
    have hrc' : (r, c) ∈ firstP (rowS m (X.map dpt)) (rowsN m - 1) := by
      rw [← firstP_congr (f := t) fun i hi => M.tr i (by omega)]
      exact hrc
    obtain ⟨⟨s1, s2⟩, ⟨s3, s4⟩, s5, hr⟩ := step_facts hm hT8 (dpts M.cel) hrc'
    rw [M.gr r (by omega), rows_get s5] at hgx
    rw [M.gr (r + 1) hr, rows_get s5, show m * (r + 1) + c = m * r + c + m by rw [Nat.mul_add, Nat.mul_one, Nat.add_right_comm]] at hgy
    have dx : dpt x = 1 := by
      rw [List.getD_eq_getElem?_getD, List.getElem?_map, hgx] at s1
      exact s1
    have dy : dpt y = -1 := by
      rw [List.getD_eq_getElem?_getD, List.getElem?_map, hgy] at s2
      exact s2
    have mx := M.cel x (List.mem_of_getElem? hgx)
    have my := M.cel y (List.mem_of_getElem? hgy)
    have drx : dpt (rvs x) = -1 := by rw [(dpt_of mx).2, dx]
    have dry : dpt (rvs y) = 1 := by rw [(dpt_of my).2, dy]; rfl
    have eT : ((X.set (m * r + c) (rvs x)).set (m * r + c + m) (rvs y)).map dpt = ((X.map dpt).set (m * r + c) (-1)).set (m * r + c + m) 1 := by rw [List.map_set, List.map_set, drx, dry]
    refine ⟨(X.set (m * r + c) (rvs x)).set (m * r + c + m) (rvs y), by rw [List.length_set, List.length_set, M.len], fun z hz => ?_, upd2 hm s5 M.gr hr _ _, ?_, ?_, ?_, fun j z u e1 e2 => ?_⟩
    · rcases List.mem_or_eq_of_mem_set hz with h | rfl
      · rcases List.mem_or_eq_of_mem_set h with h | rfl
        · exact M.cel z h
        · exact (rvs_mem mx).1
      · exact (rvs_mem my).1
    · rw [eT, drx, dry]
      exact upd2 hm s5 M.tr hr _ _
    · rw [eT]
      have := M.inv
      omega
    · rw [eT, s4, M.srt]
    · rw [List.getElem?_set] at e1
      by_cases h1 : m * r + c + m = j
      · rw [if_pos h1] at e1
        split at e1
        · cases e1
          rcases M.alt j y u (by rw [← h1]; exact hgy) e2 with e | e
          · exact .inr (by rw [e])
          · refine .inl ?_
            rw [e, (rvs_mem (hx u (List.mem_of_getElem? e2))).2]
        · cases e1
      · rw [if_neg h1, List.getElem?_set] at e1
        by_cases h2 : m * r + c = j
        · rw [if_pos h2] at e1
          split at e1
          · cases e1
            rcases M.alt j x u (by rw [← h2]; exact hgx) e2 with e | e
            · exact .inr (by rw [e])
            · refine .inl ?_
              rw [e, (rvs_mem (hx u (List.mem_of_getElem? e2))).2]
          · cases e1
        · rw [if_neg h2] at e1
          exact M.alt j z u e1 e2
end
section -- Y7
set_option maxHeartbeats 400000
/-- what the last part needs of the numbers -/
structure Fin8 (m k : Nat) (xs : List Str) (T : List Int) (X : List Str) (tn : Nat → List Int) (gn : Nat → List Str) : Prop where
  tl : T.length = 8
  ts : ∀ x ∈ T, x = 1 ∨ x = -1
  tf : (List.range (rowsN m)).flatMap tn = T
  xf : (List.range (rowsN m)).flatMap gn = X
  hk : (((firstH ((rowsOf (xs.map dpt)).map fun (k : Nat) => (k : Int)) ((rowsOf ((xs.map dpt).map (- ·)).reverse).map fun (k : Nat) => (k : Int)).reverse ((rowsOf (xs.map dpt)).map fun (k : Nat) => (k : Int)).length).filter fun h => h.fmod m == 0).length) = k
  hb : (((rowsOf (xs.map dpt)).sum : Nat) : Int) - ((rowsOf T).sum : Nat) = (m : Int) * (k : Int)
  hs : T = srtL m (xs.map dpt)
  hx : X = (List.range 8).map fun j => if T.getD j 0 = (xs.map dpt).getD j 0 then xs.getD j ⟨#[]⟩ else rvs (xs.getD j ⟨#[]⟩)
  hh : (rowsOf (xs.map dpt)).length ≤ 8 ∧ (rowsOf ((xs.map dpt).map (- ·)).reverse).length ≤ 8 ∧ ∀ a ∈ rowsOf (xs.map dpt), a ≤ (rowsOf ((xs.map dpt).map (- ·)).reverse).length
theorem fin8_of {m : Nat} (hm : m = 2 ∨ m = 3 ∨ m = 4) {xs : List Str} (hn : xs.length = 8) (hx : ∀ x ∈ xs, x ∈ cellsL) {k : Nat} {gn : Nat → List Str} {tn : Nat → List Int} {X : List Str} (M : Mid m xs k gn tn X) (fin : firstP tn (rowsN m - 1) = [] ∨ 9 ≤ k) : Fin8 m k xs (X.map dpt) X tn gn := by
  have hS8 : (xs.map dpt).length = 8 := by rw [List.length_map, hn]
  have hT8 : (X.map dpt).length = 8 := by rw [List.length_map, M.len]
  obtain ⟨b1, b2, b3, b4⟩ := beg_facts hm hS8 (dpts hx)
  have hnr := rows8_n hm
  have hinv := M.inv
  have hem : firstP (rowS m (X.map dpt)) (rowsN m - 1) = [] := by
    rcases fin with h | h
    · rw [← firstP_congr (f := tn) fun i hi => M.tr i (by omega)]
      exact h
    · omega
  have he := end_facts hm hT8 (dpts M.cel) hem
  have hk : k = invs m (xs.map dpt) := by omega
  have hs : X.map dpt = srtL m (xs.map dpt) := by rw [← M.srt, he.2]
  refine ⟨hT8, dpts M.cel, ?_, ?_, ?_, ?_, hs, ?_, Nat.le_trans (rowsOf_le _).1 (by omega), Nat.le_trans (rowsOf_le _).1 (by rw [List.length_reverse, List.length_map]; omega), fun a ha => ?_⟩
  · rw [flatMap_same fun r hr => M.tr r (List.mem_range.mp hr)]
    exact rowS_flat hm hT8
  · rw [flatMap_same fun r hr => M.gr r (List.mem_range.mp hr)]
    exact rowS_flat hm M.len
  · rw [hk]
    exact b2
  · rw [hs, b3, hk]
    push_cast
    omega
  · refine List.ext_getElem (by simp [M.len]) fun j h1 h2 => ?_
    have hj : j < 8 := by rw [M.len] at h1; exact h1
    have e1 : X[j]? = some X[j] := List.getElem?_eq_getElem h1
    have e2 : xs[j]? = some xs[j] := List.getElem?_eq_getElem (by omega)
    have mu := hx xs[j] (List.getElem_mem _)
    have alt := M.alt j _ _ e1 e2
    rw [List.getElem_map, List.getElem_range]
    have g1 : (X.map dpt).getD j 0 = dpt X[j] := by rw [List.getD_eq_getElem?_getD, List.getElem?_map, e1]; rfl
    have g2 : (xs.map dpt).getD j 0 = dpt xs[j] := by rw [List.getD_eq_getElem?_getD, List.getElem?_map, e2]; rfl
    have g3 : xs.getD j ⟨#[]⟩ = xs[j] := by rw [List.getD_eq_getElem?_getD, e2]; rfl
    rw [g1, g2, g3]
    rcases alt with e | e
    · rw [if_pos (by rw [e]), e]
    · rw [if_neg ?_, e]
      rw [e, (dpt_of mu).2]
      rcases (dpt_of mu).1 with h | h <;> rw [h] <;> decide
  · have := b4 (a : Int) (List.mem_map.mpr ⟨a, ha, rfl⟩)
    rw [List.length_reverse, List.length_map] at this
    omega
end
section -- B5b
set_option maxHeartbeats 400000
theorem lineS_len (k : Nat) : (lineS k).length = k + 1 := by simp [lineS, Str.length]
theorem lines_le {rs : List Nat} (h : ∀ k ∈ rs, k ≤ 8) : ∀ l ∈ rs.map lineS ++ [(⟨#[]⟩ : Str)], l.length ≤ 1000 := fun l hl => by
  rcases List.mem_append.mp hl with hl | hl
  · obtain ⟨k, hk, rfl⟩ := List.mem_map.mp hl
    have := h k hk
    rw [lineS_len]; omega
  · rw [List.mem_singleton.mp hl]; exact Nat.zero_le _
theorem fn_hooks8 (w : World) (mean : ExcName → Option Value) (mg mb : Str → Option Value) (S S' : List Int) (tx ty : Tok) (h1 : S.length = 8) (h2 : ∀ x ∈ S, x = 1 ∨ x = -1) (h3 : S'.length = 8) (h4 : ∀ x ∈ S', x = 1 ∨ x = -1) (hh : (rowsOf S).length ≤ 8 ∧ (rowsOf S').length ≤ 8 ∧ ∀ a ∈ rowsOf S, a ≤ (rowsOf S').length) :
   Fn w mean mg mb 10 295 [.str (pageOf S) tx, .str (pageOf S') ty] (fun _ => True) (fun h v h' => ∃ zs, NewL h v h' zs ∧ IntsAre zs (firstH ((rowsOf S).map fun (k : Nat) => (k : Int)) ((rowsOf S').map fun (k : Nat) => (k : Int)).reverse ((rowsOf S).map fun (k : Nat) => (k : Int)).length)) := by
  have p1 := pageOf_le (n := 8) (l := S) ⟨by omega, h2⟩
  have p2 := pageOf_le (n := 8) (l := S') ⟨by omega, h4⟩
  have r1 := (rowsOf_le S).2
  have r2 := (rowsOf_le S').2
  have h := fn_hooks w mean mg mb (pageOf S) (pageOf S') tx ty _ _ (split_page (rowsOf S)) (split_page (rowsOf S')) (by omega) (by omega) (by simp; omega) (by simp; omega) (lines_le fun k hk => by rw [← h1]; exact r1 k hk) (lines_le fun k hk => by rw [← h3]; exact r2 k hk)
  rw [lens_page, lens_page] at h
  refine h (by rw [List.length_map]; exact hh.1) (fun a ha => ?_) (by rw [List.length_reverse, List.length_map]; exact hh.2.1)
  obtain ⟨k, hk, rfl⟩ := List.mem_map.mp ha
  rw [List.length_reverse, List.length_map]
  have := hh.2.2 k hk
  omega
noncomputable def isSeqB (p : Addr × Obj) : Bool := match p.2.data with
  | .seq _ _ => true
  | _ => false
theorem isSeqB_cell {p : Addr × Obj} (h : isSeqB p = true) : ∀ u, p.2.data ≠ .cell u := fun u e => by
  unfold isSeqB at h
  rw [e] at h
  cases h
theorem RowsIn.only {n : Nat} {ga ta : Nat → Addr} {gv tv : Nat → List Value} {gn : Nat → List Str} {tn : Nat → List Int} {more : List (Addr × Obj)} (R : RowsIn n ga ta gv tv gn tn more) : RowsIn n ga ta gv tv gn tn (more.filter isSeqB) where
  g := fun i hi => by
    obtain ⟨o, ep, hm, h1, h2⟩ := R.g i hi
    exact ⟨o, ep, List.mem_filter.mpr ⟨hm, by unfold isSeqB; rw [show (gaOf [] 0, o).2.data = _ from h2]⟩, h1, h2⟩
  t := fun i hi => by
    obtain ⟨o, ep, hm, h1, h2⟩ := R.t i hi
    exact ⟨o, ep, List.mem_filter.mpr ⟨hm, by unfold isSeqB; rw [show (gaOf [] 0, o).2.data = _ from h2]⟩, h1, h2⟩
  gs := R.gs
  ti := R.ti
theorem rows_lists {h₀ : Heap} {s : Shared} {L : Addr} {pre more : List (Addr × Obj)} {n : Nat} {ga : Nat → Addr} {gv : Nat → List Value} (N : News h₀ L s.heap (pre ++ more)) (R : ∀ i, i < n → ∃ o ep, (ga i, o) ∈ more ∧ o.cls = .type "list" ∧ o.data = .seq (gv i).toArray ep) : ∀ r ∈ rowsL n ga gv, s.heap.IsList r.1 r.2.toArray := fun r hr => by
  obtain ⟨i, hi, rfl⟩ := List.mem_map.mp hr
  exact r_list (news_more N) (R i (List.mem_range.mp hi))
theorem firstH_le {lx ly : List Int} (h : ∀ a ∈ lx, a ≤ 8) : ∀ i, (firstH lx ly i).length ≤ 8 * i
  | 0 => Nat.le_refl _
  | i + 1 => by
    have ih := firstH_le h (ly := ly) i
    unfold firstH at *
    rw [List.range_succ, List.flatMap_append, List.length_append, List.flatMap_singleton]
    have : (rowH lx ly i (lx.getD i 0).toNat).length = (lx.getD i 0).toNat := by simp [rowH]
    rw [this]
    have hle : (lx.getD i 0).toNat ≤ 8 := by
      rw [List.getD_eq_getElem?_getD]
      cases e : lx[i]? with
      | none => exact Nat.zero_le _
      | some a =>
        have := h a (List.mem_of_getElem? e)
        show a.toNat ≤ 8
        omega
    omega
noncomputable abbrev ledE (L D Dc Ds Dg Dt Db De : Addr) (o1 o2 o3 o4 : Obj) (ys cs ss bs es : List Value) (nD nC nS nb ne : Nat) (gs ts : List (Addr × List Value)) (p1 p2 : Array Value) (more : List (Addr × Obj)) : List (Addr × Obj) :=
  (L + 1 + 1 + 1 + 1, o1) :: (De, srcO es.toArray ne) :: (Db, srcO bs.toArray nb) :: (Dt, LCg.lst (ts.map fun t => Value.ref t.1)) :: (Dg, LCg.lst (gs.map fun g => Value.ref g.1)) :: (Ds, srcO ss.toArray nS) :: (Dc, srcO cs.toArray nC) :: (D, srcO ys.toArray nD) :: (L + 1, o4) :: (L + 1 + 1, o3) :: (L + 1 + 1 + 1, o2) :: (183, tabObj p1) :: (190, tabObj p2) :: more
theorem filt_yes {H : List Int} {m : Int} {i : Nat} {a : Int} (e : H[i]? = some a) (h : a.fmod m = 0) : (H.take (i + 1)).filter (fun h => h.fmod m == 0) = (H.take i).filter (fun h => h.fmod m == 0) ++ [a] := by
  rw [List.take_add_one, e, List.filter_append]
  simp [h]
theorem filt_no {H : List Int} {m : Int} {i : Nat} {a : Int} (e : H[i]? = some a) (h : ¬ a.fmod m = 0) : (H.take (i + 1)).filter (fun h => h.fmod m == 0) = (H.take i).filter (fun h => h.fmod m == 0) := by
  rw [List.take_add_one, e, List.filter_append]
  simp [h]
theorem IntsAre.at' {vs : List Value} {ns : List Int} (h : IntsAre vs ns) : ∀ {i : Nat} {v : Value}, vs[i]? = some v → ∃ a t, ns[i]? = some a ∧ v = .int a t := by
  induction h with
  | nil => intro i v e; cases e
  | cons a t h ih =>
    intro i v e
    cases i with
    | zero => cases e; exact ⟨_, _, rfl, rfl⟩
    | succ i => exact ih e
end
section -- B5
set_option maxHeartbeats 600000
local macro_rules | `(tactic| size_fits) => `(tactic| omega)
theorem words_B5_1 : True := by
  k_with_none
  w_top off
  k_with "fn_room" => ((refine roomUp (by assumption) rfl ?_ ?_ <;> ((try dsimp only [Around.deeper, Around.in1, Around.mark]); first | exact Nat.add_le_add_left (by decide) _ | exact upLe (by decide) | exact upLe2 (by decide) | omega)))
  k_with "call ref" => ((refine unstop ?_))
  k_with "storeName" => (((with_reducible show wpAny _ _ (storeName _ (Str.ofString "many") _) _ _ _); refine unstop ?_))
  k_with "storeName" => (((with_reducible show wpAny _ _ (storeName _ (Str.ofString "cells") _) _ _ _); refine unstop ?_))
  k_with "storeName" => (((with_reducible show wpAny _ _ (storeName _ (Str.ofString "signs") _) _ _ _); refine unstop ?_))
  k_with "storeName" => (((with_reducible show wpAny _ _ (storeName _ (Str.ofString "ended") _) _ _ _); refine unstop ?_))
  k_with "exec Assign cons ListComp" => ((refine unstop ?_))
  k_with "eval ListComp" => ((refine unstop ?_))
  k_with "CompSrcT" => ((refine unstop ?_))
  k_with "CompSrc" => ((refine unstop ?_))
  k_with "call builtin:len" => ((refine unstop ?_))
  k_with "compareOp Eq ref ref" => ((refine unstop ?_))
  trivial
theorem law_e (w : World) (mean : ExcName → Option Value) (mg mb : Str → Option Value) (gb : Heap) (B : Base w mean mg mb gb) (A : Around) (rm : Room A 59) (Q : Flow → Shared → Prop) (E : Value → Shared → Prop) (l L D Dc Ds Dg Dt Dz Db : Addr) (ds : List Int) (ys cs ss bs : List Value) (gr ts : List (Addr × List Value)) (o1 o2 o3 o4 : Obj) (tm t1 t2 : Tok) (nD nC nS nb : Nat) (p1 p2 : Array Value) (s : Shared) (os₀ : OsState)
    (P : PartA ds D Dc Ds Dg ys cs ss gr) (hd1 : o1.data = .cell none) (hd2 : o2.data = .cell (some (.ref Ds))) (hd3 : o3.data = .cell (some (.ref Dc))) (hd4 : o4.data = .cell (some (.int (manyOf ds : Int) tm))) (htn : ts.length = rowsN (manyOf ds))
    (k : Nat) (t : Tok) (gv tv : Nat → List Value) (gn : Nat → List Str) (tn : Nat → List Int) (more : List (Addr × Obj)) (T : List Int) (X : List Str)
    (F : Fr gb L s.heap (fun y => if y = Str.ofString "moves" then some (.int (k : Int) t) else frC l D Dg Dt Dz Db ((cellsOf ds).map dpt) t1 t2 y)) (N : News gb L s.heap (ledK L D Dc Ds Dg Dt Db o1 o2 o3 o4 ys cs ss bs nD nC nS nb gr ts p1 p2 ++ more)) (R : RowsIn (rowsN (manyOf ds)) (gaOf gr) (gaOf ts) gv tv gn tn more) (Z : Fin8 (manyOf ds) k (cellsOf ds) T X tn gn) (hst : Still os₀ s)
    (next : ∀ s' : Shared, Grows gb s'.heap → (∃ ps, s'.heap.get? 183 = some (tabObj ps)) → (∃ ps, s'.heap.get? 190 = some (tabObj ps)) → Still os₀ s' → Q (.ret (.bool true)) s') :
    wpG (model PySem.Challenge.rw_xo0029_01.row.prog w) A (execs ((bodyAt w).drop 14) (envAt w L)) Q E s := by
  obtain ⟨hh, dp, fr, gd, un⟩ := A
  obtain ⟨g, gs, dr, tk, os⟩ := s
  obtain rfl : hh = none := rm.hh
  dsimp only at F N
  have X2 := Base.K B
  have T2 := Base.T B
  have hu : un + 64 < cLine := by have := rm.hu; dsimp only at this; omega
  have hm := many_in ds
  obtain ⟨hb2, hb4⟩ := many_bd ds
  have hnr := rows8_n hm
  revert X2; k_fill; intro X2
  refine' segOpen (w := w) 14 ?ho ?hd ?_
  case ho => k_is
  case hd => exact rfl
  simp only [List.drop_succ_cons, List.drop_zero]
  have hL := rowsL_refs htn tv
  have htl : ∀ i, i < rowsN (manyOf ds) → (tv i).length ≤ 8 := fun i hi => by
    rw [IntsAre.size (R.ti i hi)]
    have := flatF_le (f := tn) _ i hi
    rw [Z.tf, Z.tl] at this
    exact this
  have hgl : ∀ i, i < rowsN (manyOf ds) → (gv i).length ≤ 8 := fun i hi => by
    rw [StrsAre.len (R.gs i hi)]
    have := flatF_le (f := gn) _ i hi
    rw [Z.xf, Z.hx, List.length_map, List.length_range] at this
    exact this
  have hes : IntsAre ((List.range (rowsN (manyOf ds))).flatMap tv) T := by
    have h := flatF_ints _ R.ti
    rw [Z.tf] at h
    exact h
  replace N := News.fewer N (ns := ledK L D Dc Ds Dg Dt Db o1 o2 o3 o4 ys cs ss bs nD nC nS nb gr ts p1 p2 ++ more.filter isSeqB) fun p hp => by
    rcases List.mem_append.mp hp with h | h
    · exact List.mem_append_left _ h
    · exact List.mem_append_right _ (List.mem_filter.mp h).1
  have R := R.only
  have hsq : ∀ p ∈ more.filter isSeqB, isSeqB p = true := fun p hp => (List.mem_filter.mp hp).2
  generalize more.filter isSeqB = more at N R hsq
  rw [← List.append_nil [_, _, _]]
  refine gExecsApp (pre := [_, _, _]) ?_
  k_steps
  unfold Stop
  have hflat := fn_flat w mean mg mb Dt (rowsL (rowsN (manyOf ds)) (gaOf ts) tv) (by rw [List.length_map, List.length_range]; omega) (fun r hr => (List.mem_map.mp hr).elim fun i hi => hi.2 ▸ Nat.le_trans (htl i (List.mem_range.mp hi.1)) (by decide))
  rw [rowsL_flat] at hflat
  refine callL0 hflat (by walk_at "fn_room") B F N ⟨by rw [hL]; exact inLst N (.tail _ (.head _)), rows_lists N R.t⟩ fun De ne h1 tk1 F1 N2 _ => ?_
  clear hflat
  generalize (List.range (rowsN (manyOf ds))).flatMap tv = es at hes N2
  clear F N
  (try dsimp only)
  refine setCell F1 N2 (oc := o1) (c := L + 1 + 1 + 1 + 1) (by k_mem) hd1 ((De, srcO es.toArray ne) :: (Db, srcO bs.toArray nb) :: (Dt, LCg.lst (ts.map fun t => Value.ref t.1)) :: (Dg, LCg.lst (gr.map fun g => Value.ref g.1)) :: (Ds, srcO ss.toArray nS) :: (Dc, srcO cs.toArray nC) :: (D, srcO ys.toArray nD) :: (L + 1, o4) :: (L + 1 + 1, o3) :: (L + 1 + 1 + 1, o2) :: (183, tabObj p1) :: (190, tabObj p2) :: more) (kpD (by k_mem) src_nc (kpD (by k_mem) src_nc (kpD (by k_mem) lst_nc (kpD (by k_mem) lst_nc (kpD (by k_mem) src_nc (kpD (by k_mem) src_nc (kpD (by k_mem) src_nc (kpN (by k_mem) (up3 _) (kpN (by k_mem) (up2 _) (kpN (by k_mem) (up1 _) (kpD (by k_mem) tab_nc (kpD (by k_mem) tab_nc
    fun p hp => ⟨.tail _ (List.mem_append_right _ hp), .inl (isSeqB_cell (hsq p hp))⟩)))))))))))) rfl rfl rfl fun h6 o1' hv1 F6 N6 => ?_
  clear F1 N2
  have hS8 : ((cellsOf ds).map dpt).length = 8 := by rw [List.length_map, cellsOf_n]
  have hsg := dpts (cellsOf_in ds)
  have hU8 : ((((cellsOf ds).map dpt).map (- ·)).reverse).length = 8 := by rw [List.length_reverse, List.length_map, hS8]
  have hug : ∀ x ∈ (((cellsOf ds).map dpt).map (- ·)).reverse, x = 1 ∨ x = -1 := fun x hx => by
    obtain ⟨y, hy, rfl⟩ := List.mem_map.mp (List.mem_reverse.mp hx)
    rcases hsg y hy with rfl | rfl
    · exact .inr rfl
    · exact .inl rfl
  k_steps
  unfold Stop
  refine LCt.Assign_ListComp_T (F₀ := F6) (by rfl) (by with_unfolding_all rfl) (by with_unfolding_all rfl) (by decide) (by rfl) (by decide) (by rfl) (by rfl) (by rfl) ?_
  k_steps
  unfold Stop
  (with_reducible rename Fr _ _ _ _ => F7); (with_reducible rename News _ _ _ _ => N7)
  refine callL (fn_hooks8 w mean mg mb ((cellsOf ds).map dpt) ((((cellsOf ds).map dpt).map (- ·)).reverse) t1 t2 hS8 hsg hU8 hug Z.hh) (by walk_at "fn_room") B F7 N7 trivial fun Dh nh zs h8 tk8 hzs F8 N9 _ => ?_
  have hk := Z.hk
  have hHl : (firstH ((rowsOf ((cellsOf ds).map dpt)).map fun (k : Nat) => (k : Int)) ((rowsOf (((cellsOf ds).map dpt).map (- ·)).reverse).map fun (k : Nat) => (k : Int)).reverse ((rowsOf ((cellsOf ds).map dpt)).map fun (k : Nat) => (k : Int)).length).length ≤ 64 := by
    refine Nat.le_trans (firstH_le (fun a ha => ?_) _) (by rw [List.length_map]; have := Z.hh.1; omega)
    obtain ⟨k, hk, rfl⟩ := List.mem_map.mp ha
    have := (rowsOf_le ((cellsOf ds).map dpt)).2 k hk
    omega
  generalize firstH _ _ _ = H at hzs hk hHl
  clear F7 N7
  (try dsimp only)
  have hzl := IntsAre.size hzs
  have hsz9 : (1000000 : Nat) ≤ sizeLine := Nat.le_of_ble_eq_true (by decide +kernel)
  refine LCt.CompSrcT.ledger rfl F8 N9 (.head _) (by rw [List.size_toArray, hzl]; omega) fun g' => ?_
  refine CRestT.indF (fun i us => IntsAre us ((H.take i).filter fun h => h.fmod (manyOf ds : Int) == 0)) ?fin1 ?step1 .nil
  case step1 =>
    rintro i us hi hI v I oI C oC Y m₂ h tk5 E' hv hoC hx F2 N2 off ne
    clear F8 N9
    rw [List.getElem?_toArray] at hv
    obtain ⟨a, ta, ha, rfl⟩ := IntsAre.at' hzs hv
    clear hv Z P
    k_steps
    · (with_reducible rename Fr _ _ _ _ => F3); (with_reducible rename News _ _ _ _ => N3)
      refine LCg.CompEnd.intro F3 N3 _ (fun p hp => hp) off (.inr ⟨_, .head _, rfl, _, rfl⟩) ⟨rfl, ?_⟩
      rw [filt_yes ha (by assumption)]
      exact IntsAre.snoc hI _ _
    · (with_reducible rename Fr _ _ _ _ => F3); (with_reducible rename News _ _ _ _ => N3)
      refine LCg.CompEnd.intro F3 N3 _ (fun p hp => hp) off (.inr ⟨_, .head _, rfl, _, rfl⟩) ⟨rfl, ?_⟩
      rw [filt_no ha (by assumption)]
      exact hI
  case fin1 =>
    rintro us hI
    rw [List.size_toArray, hzl, List.take_length] at hI
    intro Dq h9 tk9 F9 N10 o9
    clear F8 N9
    have hul : us.length = k := by rw [IntsAre.size hI, hk]
    have hkl : k ≤ 64 := by rw [← hk]; exact Nat.le_trans (List.length_filter_le _ _) hHl
    k_steps
    unfold Stop
    refine len_list (items := us.toArray) (inLst N10 (.head _)) (by rw [List.size_toArray]; omega) ?_
    rw [List.size_toArray, hul]
    replace N10 := News.fewer N10 (ns := ledE L D Dc Ds Dg Dt Db De o1' o2 o3 o4 ys cs ss bs es nD nC nS nb ne gr ts p1 p2 more) (fun p hp => .tail _ (.tail _ hp))
    clear hI hzs o9
    k_steps
    unfold Stop
    refine callFn (fn_dgm w mean mg mb De es T) (by walk_at "fn_room") B F9 N10 ⟨inList N10 (.tail _ (.head _)), hes, Z.tl, Z.ts⟩ ?_
    rintro v h10 tk10 ⟨t3, rfl⟩ F11 N11 -
    clear F9 N10
    (try dsimp only)
    k_steps
    rotate_left
    · refine absurd ?_ (by assumption)
      unfold pageOf
      rw [count_page, count_page]
      exact Z.hb
    unfold Stop
    refine callL (fn_sorted w mean mg mb Ds ss ((cellsOf ds).map dpt) (manyOf ds : Int) tm) (by walk_at "fn_room") B F11 N11 ⟨inList N11 (.tail _ (.tail _ (.tail _ (.tail _ (.tail _ (.head _)))))), P.hss, hS8, by omega, by omega⟩ fun Dv nv vs h12 tk12 hvs F13 N14 _ => ?_
    clear F11 N11
    (try dsimp only)
    refine ke_eq_ints (inList N14 (D := De) (vs := es) (n := ne) (.tail _ (.tail _ (.head _)))) (inList N14 (.head _)) hes hvs hu ?_
    rw [decide_eq_true (show T = (List.range 8).map (fun (k : Nat) => srt ((cellsOf ds).map dpt) (manyOf ds : Int) (k : Int)) from Z.hs)]
    replace N14 := News.fewer N14 (fun p hp => List.mem_cons_of_mem _ hp)
    clear hvs
    k_steps
    unfold Stop
    have hflat := fn_flat w mean mg mb Dg (rowsL (rowsN (manyOf ds)) (gaOf gr) gv) (by rw [List.length_map, List.length_range]; omega) (fun r hr => (List.mem_map.mp hr).elim fun i hi => hi.2 ▸ Nat.le_trans (hgl i (List.mem_range.mp hi.1)) (by decide))
    rw [rowsL_flat] at hflat
    refine callL0 hflat (by walk_at "fn_room") B F13 N14 ⟨by rw [rowsL_refs P.n]; exact inLst N14 (.tail _ (.tail _ (.tail _ (.tail _ (.head _))))), rows_lists (pre := ledE L D Dc Ds Dg Dt Db De o1' o2 o3 o4 ys cs ss bs es nD nC nS nb ne gr ts p1 p2 []) N14 R.g⟩ fun Dw nw0 h15 tk15 F15 N16 _ => ?_
    clear hflat
    have hws : StrsAre ((List.range (rowsN (manyOf ds))).flatMap gv) X := by
      have h := flatF_strs _ R.gs
      rw [Z.xf] at h
      exact h
    generalize (List.range (rowsN (manyOf ds))).flatMap gv = ws at hws N16
    clear F13 N14
    (try dsimp only)
    k_steps
    unfold Stop
    (with_reducible rename Fr _ _ _ _ => F17)
    refine LCg.ListComp_U (F₀ := F17) (by with_unfolding_all rfl) (by decide) (by rfl) (by decide) (by rfl) ?_
    k_steps
    unfold Stop
    (with_reducible rename Fr _ _ _ _ => F18); (with_reducible rename News _ _ _ _ => N18); (with_reducible rename IsRange _ _ _ _ _ _ _ _ => R18)
    refine LCg.CompSrc.range (n := 8) rfl F18 N18 R18 (by decide +kernel) (by decide +kernel) (by omega) fun g2 => ?_
    refine CRest.indF (fun i us => StrsAre us ((List.range i).map fun j => if T.getD j 0 = ((cellsOf ds).map dpt).getD j 0 then (cellsOf ds).getD j ⟨#[]⟩ else rvs ((cellsOf ds).getD j ⟨#[]⟩))) ?fin2 ?step2 .nil
    case step2 =>
      rintro i us hi hI v I oI C oC Y m₂ h tk5 E' ⟨ta, rfl⟩ hoC hx F2 N2 off ne'
      clear F18 N18 R18
      simp only [Int.zero_add] at hx
      have hTl := Z.tl
      have hcs := P.hcs
      have hss := P.hss
      have hcn := cellsOf_n ds
      obtain ⟨x, hx8⟩ : ∃ x, (cellsOf ds)[i]? = some x := ⟨_, List.getElem?_eq_getElem (by omega)⟩
      have hgd : (cellsOf ds).getD i ⟨#[]⟩ = x := by rw [List.getD_eq_getElem?_getD, hx8]; rfl
      have hxl : x.length = 8 := (cell_f (cellsOf_in ds x (List.mem_of_getElem? hx8))).len
      obtain ⟨tx, htx⟩ := StrsAre.at hcs hx8
      have htx2 : cs.toArray[((i : Nat) : Int).toNat]? = some (.str x tx) := by rw [Int.toNat_natCast, List.getElem?_toArray]; exact htx
      have hi0 : 0 ≤ ((i : Nat) : Int) := Int.natCast_nonneg _
      have hi63 : ((i : Nat) : Int) < 2 ^ 63 := by omega
      clear Z P hws
      k_steps
      · (with_reducible rename Fr _ _ _ _ => F20); (with_reducible rename News _ _ _ _ => N20)
        refine item_list (items := cs.toArray) (inList N20 (D := Dc) (vs := cs) (n := nC) (by k_mem)) hi0 hi63 htx2 ?_
        refine LCg.CompEnd.intro F20 N20 _ (fun p hp => hp) off trivial ⟨rfl, ?_⟩
        rw [List.range_succ, List.map_append, List.map_singleton, if_pos (by assumption), hgd]
        exact strsAre_snoc hI _ _
      · (with_reducible rename Fr _ _ _ _ => F20); (with_reducible rename News _ _ _ _ => N20)
        refine item_list (items := cs.toArray) (inList N20 (D := Dc) (vs := cs) (n := nC) (by k_mem)) hi0 hi63 htx2 ?_
        (try dsimp only)
        k_steps
        (with_reducible rename Fr _ _ _ _ => F21); (with_reducible rename News _ _ _ _ => N21)
        refine LCg.CompEnd.intro F21 N21 ((Dw, srcO ws.toArray nw0) :: ledE L D Dc Ds Dg Dt Db De o1' o2 o3 o4 ys cs ss bs es nD nC nS nb ne gr ts p1 p2 more) (fun p hp => by first | exact hp | exact .tail _ hp) off trivial ⟨rfl, ?_⟩
        rw [List.range_succ, List.map_append, List.map_singleton, if_neg (by assumption), hgd]
        exact strsAre_snoc hI _ _
    case fin2 =>
      rintro us hI
      intro Du h19 tk19 F19 N19 o19
      clear F18 N18 R18
      k_steps
      unfold Stop
      refine ke_eq_strs (inList N19 (D := Dw) (vs := ws) (n := nw0) (.tail _ (.head _))) (inLst N19 (.head _)) hws hI (fun x hx => ?hok) hu Z.hx ?_
      case hok =>
        rw [Z.hx] at hx
        obtain ⟨j, hj, rfl⟩ := List.mem_map.mp hx
        have mc : (cellsOf ds).getD j ⟨#[]⟩ ∈ cellsL := by
          have hj8 := List.mem_range.mp hj
          rw [List.getD_eq_getElem?_getD, List.getElem?_eq_getElem (by rw [cellsOf_n]; exact hj8)]
          exact cellsOf_in ds _ (List.getElem_mem _)
        split
        · exact (cell_f mc).ok
        · exact (cell_f (rvs_mem mc).1).ok
      (try dsimp only)
      exact next _ F19.keep ⟨p1, (N19 (183, tabObj p1) (by k_mem)).1⟩ ⟨p2, (N19 (190, tabObj p2) (by k_mem)).1⟩ hst
end
section -- B6
set_option maxHeartbeats 400000
theorem fn_law (w : World) (mean : ExcName → Option Value) (mg mb : Str → Option Value) (l : Addr) (vs : List Value) (ns : List Int) (hi : IntsAre vs ns) (hn : ns.length ≤ 63) (A : Around) (s : Shared) (Q E : Value → Shared → Prop) (gb : Heap) (rm : Room A 60) (B : Base w mean mg mb gb) (hk : Grows gb s.heap) (hz : gb.objs.size ≤ s.heap.objs.size) (ha : Above gb s.heap [(183, tabObj #[]), (190, tabObj #[])]) (hl : gb.IsList l vs.toArray) (hbr : AllBare s.gens)
    (ret : ∀ s' : Shared, Grows gb s'.heap → (∃ ps, s'.heap.get? 183 = some (tabObj ps)) → (∃ ps, s'.heap.get? 190 = some (tabObj ps)) → Still s.os s' → Q (.bool true) s') : wpG (model PySem.Challenge.rw_xo0029_01.row.prog w) A (call (.ref 305) [.ref l]) Q E s := by
  refine law_a w mean mg mb l vs ns hi hn A s Q E gb rm B hk hz ha hl hbr fun A' L D Dc Ds Dg ds ys cs ss gr o1 o2 o3 o4 tm nD nC nS p1 p2 s1 rm1 P hd1 hd2 hd3 hd4 F1 N1 S1 => ?_
  refine law_b w mean mg mb gb B A' rm1 _ _ l L D Dc Ds Dg ds ys cs ss gr o1 o2 o3 o4 tm nD nC nS p1 p2 s1 s.os P hd1 hd2 hd3 hd4 F1 N1 S1 fun Dt Db Dz ts bs nb s2 PB F2 N2 S2 => ?_
  refine law_c w mean mg mb gb B A' rm1 _ _ l L D Dc Ds Dg Dt Dz Db ds ys cs ss bs gr ts o1 o2 o3 o4 tm nD nC nS nb p1 p2 s2 s.os P hd1 hd2 hd3 hd4 PB F2 N2 S2 fun t1 t2 s3 F3 N3 S3 => ?_
  refine law_d w mean mg mb gb B A' rm1 _ _ l L D Dc Ds Dg Dt Dz Db ds ys cs ss bs gr ts o1 o2 o3 o4 tm t1 t2 nD nC nS nb p1 p2 s3 s.os P hd1 hd2 hd3 hd4 PB F3 N3 S3 fun k t gv tv gn tn more s4 F4 N4 R St fin S4 => ?_
  obtain ⟨X, M⟩ := mid_of (many_in ds) (cellsOf_n ds) (cellsOf_in ds) St
  have Z := fin8_of (many_in ds) (cellsOf_n ds) (cellsOf_in ds) M fin
  exact law_e w mean mg mb gb B A' rm1 _ _ l L D Dc Ds Dg Dt Dz Db ds ys cs ss bs gr ts o1 o2 o3 o4 tm t1 t2 nD nC nS nb p1 p2 s4 s.os P hd1 hd2 hd3 hd4 PB.n k t gv tv gn tn more _ X F4 N4 R Z S4 fun s5 g5 h1 h2 S5 => ret s5 g5 h1 h2 S5
end
section -- B7
set_option maxHeartbeats 4000000
theorem law_true : PySem.Challenge.rw_xo0029_01.Holds := by
  refine holds_law ws fun _ => hd ?_
  intro w s₀ s₁ mg mb G Y a o pm cd doc dV kV ho hdat hcd hD hmg hg args vals as hpre hlay hrd hwl hlo
  have KX := kIn_of Y.1
  have Y2 := Y.2
  have T := Ground.T G
  have e1 := mg_of (n := Str.ofString "law") KX T.g (show nsIn (hd.heap_1 w.params) mainGlobals (Str.ofString "law") = some (some (.ref 305)) by kernel_rfl)
  have ea : a = 305 := by
    have h := hmg
    rw [show mg _ = mg (Str.ofString "law") from rfl, e1] at h
    cases h
    rfl
  subst ea
  clear ho hdat hD hcd Y hmg e1
  wrow_args hpre hlay hrd hwl hlo
  rename_i ns _ _ _ _ _ _ _ l vs _ hL _ _ _ hI _ hlen _
  have hT : TabsAt [((187 : Addr), (183 : Addr)), (194, 190)] s₁.heap := fun q hq => by
    rcases List.mem_cons.mp hq with rfl | hq
    · exact ⟨codeHd_of KX (by kernel_rfl), Y2.1⟩
    · rw [List.mem_singleton.mp hq]
      exact ⟨codeHd_of KX (by kernel_rfl), Y2.2⟩
  have B : Base w (ExcName.means s₀.heap) mg mb (ghostOf s₁.heap [(187, 183), (194, 190)]) := ⟨ghost_K hT KX (by kernel_rfl), ghost_top hT T⟩
  refine fn_law w (ExcName.means s₀.heap) mg mb l vs ns hI (by omega) callerA s₁ _ _ (ghostOf s₁.heap [(187, 183), (194, 190)]) ⟨rfl, by decide +kernel, by decide +kernel⟩ B (fun b o e => of_hideAll _ e) (Nat.le_of_eq (hideAll_size _ _)) (fun p hp => ?_) (ghost_list hT hL) (.of_eq hg) fun s' g' h1 h2 S => ?_
  · rcases List.mem_cons.mp hp with rfl | hp
    · exact ⟨Y2.1, hideAll_none _ (.head _)⟩
    · rw [List.mem_singleton.mp hp]
      exact ⟨Y2.2, hideAll_none _ (.tail _ (.head _))⟩
  have keep : ∀ b o, b ∉ [(183 : Addr), 190] → s₁.heap.get? b = some o → s'.heap.get? b = some o := fun b o hb e => g' b o (ghost_ne e hb)
  have grown : ∀ b o, b ∈ [(183 : Addr), 190] → s₁.heap.get? b = some o → isCodeTable s₁.heap b ∧ o = tabObj #[] ∧ ∃ ps, s'.heap.get? b = some (tabObj ps) := fun b o hb e => by
    rcases List.mem_cons.mp hb with rfl | hb
    · rw [Y2.1] at e
      exact ⟨((hT (187, 183) (.head _)).1.tab Y2.1).isCodeTable, (Option.some.inj e).symm, h1⟩
    · obtain rfl := List.mem_singleton.mp hb
      rw [Y2.2] at e
      exact ⟨((hT (194, 190) (.tail _ (.head _))).1.tab Y2.2).isCodeTable, (Option.some.inj e).symm, h2⟩
  refine ⟨.inl ⟨.bool true, .bool true, [], rfl, fun _ => rfl, .bool true, (by first | with_unfolding_all rfl | kernel_rfl | decide +kernel), fun _ => ⟨.nil, fun _ h => nomatch h⟩⟩, ⟨fun b o e => ?_, fun b o e => ?_⟩, S.2, S.1⟩
  · by_cases hb : b ∈ [(183 : Addr), 190]
    · obtain ⟨ht, rfl, ps, hP⟩ := grown b o hb e
      exact .inr (.inl ⟨ht, rfl, #[], ps, rfl, by rw [Array.empty_append]; exact hP⟩)
    · exact .inl (keep b o hb e)
  · by_cases hb : b ∈ [(183 : Addr), 190]
    · obtain ⟨_, _, ps, hP⟩ := grown b o hb e
      exact ⟨_, hP⟩
    · exact ⟨o, keep b o hb e⟩
end
end Mine

theorem PySem.Challenge.cw_xo0029_01_holds : PySem.Challenge.rw_xo0029_01.Holds :=
  Mine.law_true
