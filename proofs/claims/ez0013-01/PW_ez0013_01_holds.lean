import PyProof.Rows.All
import Wide.All
import OpenK.AllK
import Wide.FinOn
import PySem.Challenge.RW_ez0013_01
set_option Elab.async false
section
open PySem PySem.W PySem.Calls PyProof.Rows
namespace Mine
set_option maxRecDepth 100000

/-- the codes that bytearray's look at the stack minds -/
def decIds : List String := Builtin.Bytes.decodersThatHold ++ ["bytearray.__contains__", "bytearray.__mod__", "bytearray.__rmod__", "_struct.pack_into.held", "bytearray.find.held"]
def isDec : Code → Bool
  | .builtin id _ => decIds.contains id
  | _ => false
def CleanB (l : List (Code × Pos)) : Prop := ∀ x ∈ l, isDec x.1 = false
theorem CleanB.cons {c : Code} {p : Pos} {l : List (Code × Pos)} (hc : isDec c = false) (hl : CleanB l) : CleanB ((c, p) :: l) := by
  intro x hx
  rcases List.mem_cons.mp hx with rfl | hx
  · exact hc
  · exact hl x hx

/-- as wpAny, over clean contexts alone -/
def wpC {α : Type} (M : Model) (A : Around) (t : Sem α) (Q : α → Shared → Prop) (E : Value → Shared → Prop) (s : Shared) : Prop :=
  ∀ Γ p, Γ.In A → isDec Γ.code = false → CleanB Γ.below → Sem.wp M Γ t (fun a _ s' => Q a s') (fun e _ s' => E e s') p s
def codeC (M : Model) (A : Around) (c : Code) (R : Result → Shared → Prop) (s : Shared) : Prop :=
  ∀ Γ p, Γ.code = c → Γ.Below A → CleanB Γ.below → wpCode M Γ R p s

section
variable {α β : Type} {M : Model} {A : Around} {E : Value → Shared → Prop} {s : Shared}
theorem wpC_any {t : Sem α} {Q : α → Shared → Prop} (h : wpAny M A t Q E s) : wpC M A t Q E s := fun Γ p hΓ _ _ => h Γ p hΓ
theorem codeC_any {c : Code} {R : Result → Shared → Prop} (h : codeAny M A c R s) : codeC M A c R s := fun Γ p hc hΓ _ => h Γ p hc hΓ
theorem wpC_mono {t : Sem α} {Q Q' : α → Shared → Prop} {E' : Value → Shared → Prop} (h : wpC M A t Q E s) (hQ : ∀ a s, Q a s → Q' a s) (hE : ∀ e s, E e s → E' e s) : wpC M A t Q' E' s :=
  fun Γ p hΓ hc hb => Sem.wp_mono M Γ t (fun a _ s => hQ a s) (fun e _ s => hE e s) p s (h Γ p hΓ hc hb)
theorem codeC_mono {c : Code} {R R' : Result → Shared → Prop} (h : codeC M A c R s) (hR : ∀ r s, R r s → R' r s) : codeC M A c R' s :=
  fun Γ p hc hΓ hb => wpCode_mono hR (h Γ p hc hΓ hb)
theorem wpC_bind {m : Sem α} {f : α → Sem β} {Q : β → Shared → Prop} (h : wpC M A m (fun a s' => wpC M A (f a) Q E s') E s) : wpC M A (m >>= f) Q E s :=
  fun Γ p hΓ hc hb => by
    rw [Sem.wp_bind']
    exact Sem.wp_mono M Γ m (fun a p' s' h' => h' Γ p' hΓ hc hb) (fun _ _ _ h' => h') p s (h Γ p hΓ hc hb)
/-- the head by the library, the rest clean -/
theorem wpC_bindA {m : Sem α} {f : α → Sem β} {Q : β → Shared → Prop} (h : wpAny M A m (fun a s' => wpC M A (f a) Q E s') E s) : wpC M A (m >>= f) Q E s := wpC_bind (wpC_any h)
theorem wpC_pure {a : α} {Q : α → Shared → Prop} (h : Q a s) : wpC M A (pure a) Q E s := fun _ _ _ _ _ => h
theorem wpC_holding {vs : List Value} {m : Sem α} {Q : α → Shared → Prop} (h : wpC M A m Q E s) : wpC M A (holding vs m) Q E s :=
  fun Γ p hΓ hc hb => by rw [Sem.wp_holding]; exact h Γ p hΓ hc hb
theorem wpC_onRaise {m : Sem α} {k : Value → Sem Unit} {Q : α → Shared → Prop}
    (h : wpC M A m Q (fun e s' => wpAny M A (k e) (fun _ s'' => E e s'') E s') s) : wpC M A (m.onRaise k) Q E s := fun Γ p hΓ hc hb => by
  rw [Sem.wp_onRaise]
  exact Sem.wp_mono M Γ m (fun _ _ _ h' => h') (fun e p' s' h' => h' Γ p' hΓ) p s (h Γ p hΓ hc hb)
theorem wpC_attempt {m : Sem α} {Q : Except Value α → Shared → Prop} (h : wpC M A m (fun a => Q (.ok a)) (fun e => Q (.error e)) s) :
    wpC M A m.attempt Q E s := fun Γ p hΓ hc hb => by rw [Sem.wp_attempt]; exact h Γ p hΓ hc hb
theorem wpC_ite {c : Prop} [Decidable c] {a b : Sem α} {Q : α → Shared → Prop} (h : if c then wpC M A a Q E s else wpC M A b Q E s) :
    wpC M A (if c then a else b) Q E s := by split <;> simp_all
theorem wpC_of_eq {t : Sem α} {a : α} {Q : α → Shared → Prop} (e : t = pure a) (h : Q a s) : wpC M A t Q E s := by rw [e]; exact wpC_pure h
theorem wpC_keep {vs : List Value} {m : Sem α} {Q : α → Shared → Prop} (h : wpC M A m Q E s) : wpC M A (m.keep vs) Q E s :=
  fun Γ p hΓ hc hb => by rw [Sem.wp_keep]; exact h Γ p hΓ hc hb
theorem wpC_run {c : Code} {Q : Flow → Shared → Prop} (hq : codeC M A c (fun r s' => match r with | .ok f => Q f s' | .error e => E e s') s) : wpC M A (run c none) Q E s :=
  fun Γ p hΓ hc hb => by rw [Sem.wp_run]; exact hq _ p rfl (hΓ.enter c none p (by intro x; cases x)) (.cons hc hb)
theorem wpC_runValue {c : Code} {Q : Value → Shared → Prop}
    (hq : codeC M A c (fun r s' => match r with | .ok (.ret v) => Q v s' | .ok _ => False | .error e => E e s') s) : wpC M A (runValue c) Q E s :=
  fun Γ p hΓ hc hb => by rw [Sem.wp_runValue]; exact hq _ p rfl (hΓ.enter c none p (by intro x; cases x)) (.cons hc hb)
theorem wpC_call {f : Value} {pos : List Value} {kw : List (Str × Value)} {Q : Value → Shared → Prop}
    (hc : codeC M A (.call f ⟨pos, kw⟩) (fun r s' => match r with | .ok (.ret v) => Q v s' | .ok _ => False | .error e => E e s') s) : wpC M A (call f pos kw) Q E s := wpC_runValue hc
theorem codeC_of_tree {c : Code} {R : Result → Shared → Prop}
    (h : wpC M (A.under c) (M.den c) (fun fin s' => match fin with | .done f => R (.ok f) s' | .again c' => c'.quiet = true ∧ codeC M A c' R s')
      (fun e s' => R (.error e) s') s) (hd : isDec c = false := by rfl) : codeC M A c R s := fun Γ p hc hΓ hb => by
  rw [wpCode_iff_wp, hc]
  refine Sem.wp_mono M Γ _ (fun fin p' s' h' => ?_) (fun _ _ _ h' => h') p s (h Γ p (hc ▸ hΓ.in) (hc ▸ hd) hb)
  cases fin with
  | done f => exact h'
  | again c' => exact ⟨h'.1, h'.2 (Γ.goto c') p' rfl (hΓ.goto c') hb⟩
theorem wpC_standAt {pos : Pos} {Q : Unit → Shared → Prop} (h : Q () s) : wpC M A (standAt pos) Q E s := wpC_any (wpAny_standAt h)
theorem wpC_point {Q : Unit → Shared → Prop} (h : Q () s) : wpC M A point Q E s := wpC_any (wpAny_point h)

/-- what the clean contexts are for -/
theorem exported_C {self : Value} {Q : Bool → Shared → Prop} (h : Q false s) : wpC M A (Builtin.Bytes.exported self) Q E s := fun Γ p hΓ hc hb => by
  unfold Builtin.Bytes.exported
  show Q (((Γ.code, p) :: Γ.below).any _) s
  have hall : ∀ x ∈ (Γ.code, p) :: Γ.below, isDec x.1 = false := CleanB.cons hc hb
  rw [List.any_eq_false.mpr ?_]
  · exact h
  · intro x hx
    have hd := hall x hx
    obtain ⟨c, p'⟩ := x
    simp only [isDec] at hd
    split
    all_goals first
      | (rename_i heq; exfalso; revert hd; cases heq; simp [decIds]; done)
      | (rename_i heq; cases heq; simp only [decIds, List.contains_eq_mem, decide_eq_false_iff_not, List.mem_append, not_or, Builtin.Bytes.decodersThatHold] at hd ⊢; simp_all; done)
      | (intro z; cases z)
      | skip
end
end Mine

end
section
open PySem PySem.W PySem.Calls PyProof.Rows
namespace Mine
set_option maxRecDepth 100000
section
variable {M : Model} {A : Around} {E : Value → Shared → Prop} {s : Shared} {env : Env}
theorem wpC_release {vs keep : List Value} {Q : Unit → Shared → Prop} (h : Q () s) : wpC M A (release vs keep) Q E s := fun Γ p _ _ _ => by
  rw [Sem.wp_release]; exact h
theorem wpC_bindName {x : Str} {v : Value} {Q : Unit → Shared → Prop} (h : wpAny M A (storeName env x v) Q E s) : wpC M A (bindName env x v) Q E s := wpC_any (wpAny_bindName h)
theorem wpC_execs {st : Stmt} {rest : List Stmt} {Q : Flow → Shared → Prop}
    (h : wpC M A (exec st env) (fun f s' => match f with | .next => wpC M A (execs rest env) Q E s' | f => Q f s') E s) : wpC M A (execs (st :: rest) env) Q E s := by
  rw [execs_cons]
  refine wpC_bind (wpC_mono h (fun f s' h' => ?_) fun _ _ x => x)
  cases f <;> first | exact h' | exact wpC_pure h'
theorem wpC_execs_nil {Q : Flow → Shared → Prop} (h : Q .next s) : wpC M A (execs [] env) Q E s := wpC_any (wpAny_execs_nil h)
theorem wpC_If {test : Expr} {body orelse : List Stmt} {pos : Pos} {Q : Flow → Shared → Prop}
    (h : wpC M A (isTrue test env (eval test env)) (fun b s₂ => if b then wpC M A (execs body env) Q E s₂ else wpC M A (execs orelse env) Q E s₂) E s) :
    wpC M A (exec (.If test body orelse pos) env) Q E s := by
  rw [exec_If]
  refine wpC_bind (wpC_standAt (wpC_bind (wpC_mono h (fun b s₂ h₂ => ?_) fun _ _ x => x)))
  exact wpC_ite h₂
theorem wpC_Return {e : Expr} {pos : Pos} {Q : Flow → Shared → Prop} (h : wpC M A (eval e env) (fun v => Q (.ret v)) E s) : wpC M A (exec (.Return (some e) pos) env) Q E s := by
  rw [exec_Return_some]
  exact wpC_bind (wpC_standAt (wpC_bind (wpC_mono h (fun v s₂ h₂ => wpC_pure h₂) fun _ _ x => x)))
theorem wpC_Assign_Name {x : Str} {pos' pos : Pos} {value : Expr} {Q : Flow → Shared → Prop}
    (h : wpC M A (eval value env) (fun v s₁ => wpAny M A (storeName env x v) (fun _ => Q .next) E s₁) E s)
    (hs : swapsWith value (some (.Name x pos')) pos.line env = pure false := by rfl) : wpC M A (exec (.Assign [.Name x pos'] value pos) env) Q E s := by
  rw [exec_Assign_Name env x pos' value pos hs]
  refine wpC_bind (wpC_standAt (wpC_bind (wpC_mono h (fun v s₁ h₁ => wpC_bind (wpC_standAt (wpC_bind (wpC_bindName ?_)))) fun _ _ x => x)))
  exact wpAny_mono h₁ (fun _ _ q => wpC_pure q) fun _ _ x => x
theorem wpC_Assign_Attr {o : Expr} {attr : Str} {pos' pos : Pos} {value : Expr} {Q : Flow → Shared → Prop}
    (h : wpC M A (eval value env) (fun v s₁ => wpAny M A (eval o env) (fun ov s₂ => wpAny M A (setAttr ov attr v) (fun _ => Q .next) E s₂) E s₁) E s)
    (hs : swapsWith value (some (.Attribute o attr pos')) pos.line env = pure false := by rfl) : wpC M A (exec (.Assign [.Attribute o attr pos'] value pos) env) Q E s := fun Γ p hΓ hc hb => by
  simp only [plainObj_exec_Assign_Attribute o attr pos' value pos hs, assign_Attribute, Sem.wp_bind', Sem.wp_holding, Sem.wp_cmd_standAt, Sem.wp_release, Sem.wp_pure']
  exact Sem.wp_mono M Γ _ (fun v p₁ s₁ h₁ => Sem.wp_mono M Γ _ (fun ov _ s₂ h₂ => h₂ Γ _ hΓ) (fun _ _ _ h' => h') _ _ (h₁ Γ p₁ hΓ)) (fun _ _ _ h' => h') _ _ (h Γ _ hΓ hc hb)
theorem wpC_isTrue_Compare {l r : Expr} {op : CmpOp} {pos : Pos} {whole : Sem Value} {Q : Bool → Shared → Prop}
    (h : wpC M A (eval l env) (fun a s₁ => wpAny M A (eval r env) (fun b s₂ => wpAny M A (compareOp op a b) (fun c s₃ => wpAny M A (truthy c) Q E s₃) E s₂) E s₁) E s)
    (hm : behindInMarks op r = false := by with_unfolding_all rfl) : wpC M A (isTrue (.Compare l [op] [r] pos) env whole) Q E s := fun Γ p hΓ hc hb => by
  simp only [isTrue_Compare1, markedBehindIn_of_false hm, Sem.wp_bind', Sem.wp_holding, Sem.wp_cmd_standAt, Sem.wp_operate]
  exact Sem.wp_mono M Γ _ (fun a p₁ s₁ h₁ => Sem.wp_mono M Γ _ (fun b _ s₂ h₂ => Sem.wp_mono M Γ _ (fun c p₃ s₃ h₃ => h₃ Γ p₃ hΓ)
    (fun _ _ _ h' => h') _ _ (h₂ Γ _ hΓ)) (fun _ _ _ h' => h') _ _ (h₁ Γ p₁ hΓ)) (fun _ _ _ h' => h') _ _ (h Γ p hΓ hc hb)
theorem wpC_Compare {l r : Expr} {op : CmpOp} {pos : Pos} {Q : Value → Shared → Prop}
    (h : wpC M A (eval l env) (fun a s₁ => wpAny M A (eval r env) (fun b s₂ => wpAny M A (compareOp op a b) Q E s₂) E s₁) E s)
    (hm : behindInMarks op r = false := by with_unfolding_all rfl) : wpC M A (eval (.Compare l [op] [r] pos) env) Q E s := fun Γ p hΓ hc hb => by
  simp only [eval_Compare1, markedBehindIn_of_false hm, Sem.wp_bind', Sem.wp_holding, Sem.wp_cmd_standAt, Sem.wp_operate]
  exact Sem.wp_mono M Γ _ (fun a p₁ s₁ h₁ => Sem.wp_mono M Γ _ (fun b _ s₂ h₂ => h₂ Γ _ hΓ) (fun _ _ _ h' => h') _ _ (h₁ Γ p₁ hΓ)) (fun _ _ _ h' => h') _ _ (h Γ p hΓ hc hb)
theorem wpC_isTrue_not {x : Expr} {pos : Pos} {whole : Sem Value} {Q : Bool → Shared → Prop} (h : wpC M A (isTrue x env (eval x env)) (fun c s' => Q (!c) s') E s) : wpC M A (isTrue (.UnaryOp .Not x pos) env whole) Q E s := by
  show wpC M A (do return !(← isTrue x env (eval x env))) Q E s
  exact wpC_bind (wpC_mono h (fun _ _ q => wpC_pure q) fun _ _ x => x)
theorem wpC_isTrue_and {x : Expr} {rest : List Expr} {pos : Pos} {whole : Sem Value} {Q : Bool → Shared → Prop}
    (h : wpC M A (isTrue x env (eval x env)) (fun c s' => if c then wpC M A (isTrue (.BoolOp .And rest pos) env whole) Q E s' else Q false s') E s) :
    wpC M A (isTrue (.BoolOp .And (x :: rest) pos) env whole) Q E s := by
  show wpC M A (do
    match BoolOp.And, ← isTrue x env (eval x env) with
    | .And, false => pure false
    | .Or, true => pure true
    | _, _ => allTrue .And rest env) Q E s
  refine wpC_bind (wpC_mono h (fun c s' h' => ?_) fun _ _ x => x)
  cases c with
  | false => exact wpC_pure h'
  | true => exact h'
theorem wpC_isTrue_or {x : Expr} {rest : List Expr} {pos : Pos} {whole : Sem Value} {Q : Bool → Shared → Prop}
    (h : wpC M A (isTrue x env (eval x env)) (fun c s' => if c then Q true s' else wpC M A (isTrue (.BoolOp .Or rest pos) env whole) Q E s') E s) :
    wpC M A (isTrue (.BoolOp .Or (x :: rest) pos) env whole) Q E s := by
  show wpC M A (do
    match BoolOp.Or, ← isTrue x env (eval x env) with
    | .And, false => pure false
    | .Or, true => pure true
    | _, _ => allTrue .Or rest env) Q E s
  refine wpC_bind (wpC_mono h (fun c s' h' => ?_) fun _ _ x => x)
  cases c with
  | false => exact h'
  | true => exact wpC_pure h'
theorem wpC_isTrue_and_nil {pos : Pos} {whole : Sem Value} {Q : Bool → Shared → Prop} (h : Q true s) : wpC M A (isTrue (.BoolOp .And [] pos) env whole) Q E s := wpC_pure (a := true) h
theorem wpC_isTrue_or_nil {pos : Pos} {whole : Sem Value} {Q : Bool → Shared → Prop} (h : Q false s) : wpC M A (isTrue (.BoolOp .Or [] pos) env whole) Q E s := wpC_pure (a := false) h
/-- the truth of what a call gives -/
theorem wpC_isTrue_Call {f : Expr} {as : List Expr} {ks : List Keyword} {pos : Pos} {Q : Bool → Shared → Prop}
    (h : wpC M A (eval (.Call f as ks pos) env) (fun v s₁ => wpAny M A (truthy v) Q E s₁) E s) : wpC M A (isTrue (.Call f as ks pos) env (eval (.Call f as ks pos) env)) Q E s := by
  show wpC M A (do let v ← eval (.Call f as ks pos) env; standAt _; holding [v] (truthy v)) Q E s
  exact wpC_bind (wpC_mono h (fun v s₁ h₁ => wpC_bind (wpC_standAt (wpC_holding (wpC_any h₁)))) fun _ _ x => x)
theorem wpC_And2 {x y : Expr} {pos : Pos} {Q : Value → Shared → Prop}
    (h : wpC M A (eval x env) (fun v s₁ => wpAny M A (truthy v) (fun b s₂ => if b then wpC M A (eval y env) Q E s₂ else Q v s₂) E s₁) E s) : wpC M A (eval (.BoolOp .And [x, y] pos) env) Q E s := by
  show wpC M A (do
    let v ← eval x env
    standAt pos
    let t ← holding [v] (truthy v)
    match BoolOp.And, t with
    | .And, false | .Or, true => pure v
    | _, _ => eval y env) Q E s
  refine wpC_bind (wpC_mono h (fun v s₁ h₁ => wpC_bind (wpC_standAt (wpC_bind (wpC_holding (wpC_any (wpAny_mono h₁ (fun b s₂ h₂ => ?_) fun _ _ x => x)))))) fun _ _ x => x)
  cases b with
  | false => exact wpC_pure h₂
  | true => exact h₂
theorem wpC_IfExp {test body orelse : Expr} {pos : Pos} {Q : Value → Shared → Prop}
    (h : wpAny M A (isTrue test env (eval test env)) (fun b s₂ => if b then wpC M A (eval body env) Q E s₂ else wpC M A (eval orelse env) Q E s₂) E s) : wpC M A (eval (.IfExp test body orelse pos) env) Q E s := by
  show wpC M A (do if ← isTrue test env (eval test env) then eval body env else eval orelse env) Q E s
  exact wpC_bindA (wpAny_mono h (fun b s₂ h₂ => wpC_ite h₂) fun _ _ x => x)
theorem wpC_Call_Name {f : Str} {p pos : Pos} {args : List Expr} {Q : Value → Shared → Prop}
    (h : wpAny M A (eval (.Name f p) env) (fun v s₁ => wpC M A (callWith pos v [] (backTo pos (starEach args env)) []) Q E s₁) E s) : wpC M A (eval (.Call (.Name f p) args [] pos) env) Q E s := by
  rw [arm_eval_Call_Name']
  exact wpC_bindA h
theorem wpC_callWith {P : Heap → Prop} {pos : Pos} {f : Value} {first : List Value} {args : List (Bool × Sem Value)} {Q : Value → Shared → Prop} (hplain : args.any (·.1) = false)
    (hk : ∀ h, P h → ∃ k, (k = Keeper.frame ∨ k = Keeper.machine ∨ k = Keeper.boundFrame) ∧ Looks M h (keeperOf f) k)
    (h : wpAny M A (evalArgs f true args []) (fun a s₁ => P s₁.heap ∧ wpC M A (call f (first ++ a.pos) a.kw) Q E s₁) E s) : wpC M A (callWith pos f first args []) Q E s := by
  unfold callWith
  refine wpC_bind (wpC_holding (wpC_any (wpAny_mono h (fun a s₁ h₁ => wpC_bind (wpC_standAt ?_)) fun _ _ x => x)))
  obtain ⟨k, hk', L⟩ := hk _ h₁.1
  simp only [hplain, List.any_nil, Bool.or_false]
  refine wpC_bindA (L.here ?_)
  have tail : ∀ {t : Sem Value}, wpC M A t Q E s₁ → wpC M A (t >>= fun r => holding [r] point >>= fun _ => pure r) Q E s₁ :=
    fun ht => wpC_bind (wpC_mono ht (fun r s₂ hr => wpC_bind (wpC_holding (wpC_point (wpC_pure hr)))) fun _ _ x => x)
  have marked (mk : Value) : wpC M A (callMarked mk f (first ++ a.pos) a.kw) Q E s₁ := by unfold callMarked; exact wpC_keep h₁.2
  rcases hk' with rfl | rfl | rfl <;> dsimp only <;> first | exact tail h₁.2 | (split <;> first | exact tail h₁.2 | exact tail (marked _))
theorem wpC_callWith_type {pos : Pos} {T : String} {e : Expr} {rest : List Expr} {Q : Value → Shared → Prop}
    (h : wpAny M A (spliced (backTo pos (starEach (e :: rest) env))) (fun vs s₁ => wpC M A (call (.type T) vs) Q E s₁) E s)
    (he : starEach (e :: rest) env = (false, eval e env) :: starEach rest env := by rfl) (hplain : (backTo pos (starEach rest env)).any (·.1) = false := by rfl) :
    wpC M A (callWith pos (.type T) [] (backTo pos (starEach (e :: rest) env)) []) Q E s := by
  rw [he] at h ⊢
  refine wpC_callWith (P := fun _ => True) (by show (false || (backTo pos (starEach rest env)).any (·.1)) = false; rw [hplain]; rfl) (fun h _ => ⟨.machine, .inr (.inl rfl), Looks.of_pure rfl⟩) ?_
  exact evalArgs_plain (wpAny_mono h (fun vs s₁ h₁ => ⟨trivial, h₁⟩) fun _ _ x => x)
theorem wpC_callWith_K {K : Frag} {h₀ : Heap} {pos : Pos} {f : Value} {e : Expr} {rest : List Expr} {Q : Value → Shared → Prop} (_X : K.In h₀) (hk : keepIn K f = true)
    (h : wpAny M A (spliced (backTo pos (starEach (e :: rest) env))) (fun vs s₁ => K.In s₁.heap ∧ wpC M A (call f vs) Q E s₁) E s)
    (he : starEach (e :: rest) env = (false, eval e env) :: starEach rest env := by rfl) (hplain : (backTo pos (starEach rest env)).any (·.1) = false := by rfl) :
    wpC M A (callWith pos f [] (backTo pos (starEach (e :: rest) env)) []) Q E s := by
  rw [he] at h ⊢
  exact wpC_callWith (P := fun h => K.In h) (by show (false || (backTo pos (starEach rest env)).any (·.1)) = false; rw [hplain]; rfl) (keeps_K hk) (evalArgs_plain h)
theorem wpC_Try {body orelse : List Stmt} {h₀ : ExceptHandler} {hs : List ExceptHandler} {pos : Pos} {Q : Flow → Shared → Prop}
    (h : wpC M A (execs body env) (fun f s₁ => match f with | .next => wpAny M A (execs orelse env) Q E s₁ | f => Q f s₁)
      (fun e s₁ => wpAny M A (noteFrame e env) (fun _ s₂ => wpAny M A (setFlight e none) (fun _ s₃ => wpAny M A (handleBy e env (h₀ :: hs)) Q E s₃) E s₂) E s₁) s) :
    wpC M A (exec (.Try body (h₀ :: hs) orelse [] pos) env) Q E s := by
  show wpC M A (do standAt pos; tryStmt false (execs body env) (h₀ :: hs) (execs orelse env) [] env) Q E s
  refine wpC_bind (wpC_standAt ?_)
  unfold tryStmt
  simp only [List.isEmpty_nil, if_true, List.isEmpty_cons, Bool.false_and, Bool.false_eq_true, if_false]
  refine wpC_bind (wpC_attempt (wpC_mono h (fun f s₁ h₁ => ?_) fun e s₁ h₁ => ?_))
  · cases f <;> first | exact wpC_any h₁ | exact wpC_pure h₁
  · exact wpC_bindA (wpAny_mono h₁ (fun _ _ h₂ => wpC_bindA (wpAny_mono h₂ (fun _ _ h₃ => wpC_any h₃) fun _ _ x => x)) fun _ _ x => x)
end

section
variable {prog : Program} {w : World} {A : Around} {E : Value → Shared → Prop} {s : Shared} {env : Env}
theorem codeC_func {R : Result → Shared → Prop} {body : List Stmt} {env : Env}
    (h : wpC (model prog w) (A.deeper env) (execs body env) (fun f s' => R (.ok (.ret (match f with | .ret v => v | _ => .none))) s')
      (fun e s' => wpAny (model prog w) (A.deeper env) (leaving env e) (fun _ s'' => R (.error e) s'') (fun e' s'' => R (.error e') s'') s') s) :
    codeC (model prog w) A (.func body env) R s := by
  refine codeC_of_tree ?_
  show wpC _ (A.deeper env) (do point; match ← (execs body env).onRaise (leaving env) with | .ret v => ret v | _ => ret .none) _ _ s
  refine wpC_bind (wpC_point (wpC_bind (wpC_onRaise (wpC_mono h (fun f s' h' => ?_) fun _ _ h' => h'))))
  cases f <;> exact wpC_pure h'
theorem wpC_For {target iter : Expr} {body orelse : List Stmt} {pos : Pos} {Q : Flow → Shared → Prop}
    (h : wpAny (model prog w) A (eval iter env) (fun x s₁ => wpAny (model prog w) A (pyIter x) (fun it s₂ =>
      codeC (model prog w) A (.forLoop target it body orelse env) (fun r s' => match r with | .ok f => Q f s' | .error e => cameBackBy (model prog w) A env E e s') s₂) E s₁) E s)
    (hs : ∀ x, foldedSetIterable iter env x = pure x := by intro _; rfl) :
    wpC (model prog w) A (exec (.For target iter body orelse pos) env) Q E s := by
  rw [exec_For]
  refine wpC_bind (wpC_standAt (wpC_bindA (wpAny_mono h (fun x s₁ h₁ => wpC_bind (wpC_of_eq (hs x) (wpC_bind (wpC_standAt (wpC_bind (wpC_holding (wpC_any
    (wpAny_mono h₁ (fun it s₂ h₂ => ?_) fun _ _ h' => h')))))))) fun _ _ h' => h')))
  unfold runOwn
  exact wpC_onRaise (wpC_run h₂)
/-- one turn of a for, clean -/
theorem codeC_forTurn {R : Result → Shared → Prop} {target : Expr} {it : Value} {body orelse : List Stmt}
    (turn : wpAny (model prog w) A (pyNext it) (fun r s₁ => match r with
      | none => wpAny (model prog w) A (execs orelse env) (fun f s₃ => R (.ok f) s₃) (notedBy (model prog w) A env fun e s' => R (.error e) s') s₁
      | some v => wpAny (model prog w) A (letOwnedTupleGo target it v) (fun _ s₁' =>
          wpAny (model prog w) A (assign target env v) (fun _ s₂ => wpC (model prog w) A (execs body env) (fun f s₃ => match f with
            | .next | .cont => codeC (model prog w) A (.forLoop target it body orelse env) R s₃
            | .brk => R (.ok .next) s₃
            | .ret v => R (.ok (.ret v)) s₃) (notedBy (model prog w) A env fun e s' => R (.error e) s') s₂) (notedBy (model prog w) A env fun e s' => R (.error e) s') s₁') (notedBy (model prog w) A env fun e s' => R (.error e) s') s₁) (notedBy (model prog w) A env fun e s' => R (.error e) s') s) :
    codeC (model prog w) A (.forLoop target it body orelse env) R s := by
  refine codeC_of_tree ?_
  rw [Around.under_of_weight (c := .forLoop target it body orelse env) rfl]
  show wpC _ A ((forTurn target it body orelse env).onRaise (fun x => do noteFrame x env; theTreesLotGoes x)) _ _ s
  refine wpC_onRaise (wpC_mono (E := notedBy (model prog w) A env fun e s' => R (.error e) s') ?_ (fun _ _ q => q) fun _ _ hx => wpAny_bind (wpAny_mono hx (fun _ _ e => wpAny_theTreesLotGoes e) fun _ _ e => e))
  simp only [forTurn]
  refine wpC_bind (wpC_standAt (wpC_bindA (wpAny_onRaise (wpAny_mono turn (fun r s₁ h₁ => ?_) fun _ _ h' => wpAny_standAt h'))))
  cases r with
  | none => exact wpC_pure ⟨rfl, codeC_any (codeAny_block h₁)⟩
  | some v =>
    refine wpC_bindA (wpAny_mono h₁ (fun _ s₁' h₁' => ?_) fun _ _ h' => h')
    refine wpC_bindA (wpAny_mono h₁' (fun _ s₂ h₂ => wpC_bind (wpC_mono h₂ (fun f s₃ h₃ => ?_) fun _ _ h' => h')) fun _ _ h' => h')
    cases f with
    | next => exact wpC_pure ⟨rfl, h₃⟩
    | cont => exact wpC_pure ⟨rfl, h₃⟩
    | brk => exact wpC_pure h₃
    | ret v => exact wpC_pure h₃
theorem codeC_call_function {R : Result → Shared → Prop} {a : Addr} {args : Args} {o : Obj} {fd : FuncData} {body : List Stmt} (hroom : A.depth < recursionLimit)
    (ho : s.heap.get? a = some o) (hd' : o.data = .func fd) (hco : fd.scope.isCoroutine = false) (hgen : fd.scope.isGenerator = false) (hbody : fd.body = .stmts body) (hcd : s.heap.CodeRec fd.code fd.qualname)
    (h : wpAny (model prog w) A.in1 (bindArgs fd args) (fun binds s₁ =>
      wpAny (model prog w) A.in1 (newFunctionEnv fd.scope fd.globals fd.closure binds (fd.qualname ++ ".<locals>.") (some a) fd.code none fd.builtins)
        (fun env s₂ => s₂.heap.NoLimit ∧ codeC (model prog w) A (.func body env) R s₂) (fun e s' => R (.error e) s') s₁) (fun e s' => R (.error e) s') s) :
    codeC (model prog w) A (.call (.ref a) args) R s := by
  refine codeC_of_tree (wpC_any ?_)
  show wpAny _ A.in1 (callAny (.ref a) args) _ _ s
  simp only [callAny]
  refine wpAny_bind (wpAny_load ho ?_)
  obtain ⟨c, oc, vs, tq, hc, hoc, hdc, hq⟩ := hcd
  simp only [hd', callFunction, hco, hgen, hbody, hc]
  rw [hc] at h
  refine wpAny_bind (m := field (.ref c) 1) (wpAny_field hoc hdc hq (wpAny_bind (wpAny_pure ?_)))
  exact wpAny_bind (wpAny_mono h (fun binds s₁ h₁ => wpAny_bind (wpAny_mono h₁ (fun env s₂ h₂ => wpAny_bind (wpAny_enterFrame h₂.1 hroom
    (wpAny_pure (And.intro rfl h₂.2)))) fun _ _ h' => h')) fun _ _ h' => h')
theorem codeC_call_def {R : Result → Shared → Prop} {a : Addr} {o : Obj} {fd : FuncData} {body : List Stmt} {args : Args} {binds : List (Str × Value)}
    (hroom : A.depth < recursionLimit) (ho : s.heap.get? a = some o) (hdata : o.data = .func fd) (hlim : s.heap.NoLimit) (hcd : s.heap.CodeRec fd.code fd.qualname)
    (hbody : fd.body = .stmts body) (hbind : BindsTo s fd args binds)
    (hcell : ∀ x ∈ fd.scope.names, x.2 ≠ .cell) (hloc : ∀ x ∈ binds, fd.scope.names.lookup x.1 = some .local)
    (h : ∀ h₀, h₀.Ns s.heap.objs.size (fun x => binds.reverse.lookup x) → (∀ b o, s.heap.get? b = some o → h₀.get? b = some o) →
      wpC (model prog w) (A.deeper (callEnv fd s.heap.objs.size a)) (execs body (callEnv fd s.heap.objs.size a)) (fun f s' => R (.ok (.ret (match f with | .ret v => v | _ => .none))) s')
        (fun e s' => wpAny (model prog w) (A.deeper (callEnv fd s.heap.objs.size a)) (leaving (callEnv fd s.heap.objs.size a) e) (fun _ s'' => R (.error e) s'') (fun e' s'' => R (.error e') s'') s')
        { s with heap := h₀, toks := s.toks + binds.length })
    (hco : fd.scope.isCoroutine = false := by rfl) (hgen : fd.scope.isGenerator = false := by rfl) (hk : fd.scope.kind = .function := by rfl) :
    codeC (model prog w) A (.call (.ref a) args) R s := by
  refine codeC_call_function hroom ho hdata hco hgen hbody hcd (hbind _ _ _ _ ?_)
  refine wpAny_newFunctionEnv hcell hloc (fun h₀ hns₀ hsb₀ => ⟨hlim.fresh _ hsb₀, codeC_func (h h₀ hns₀ fun b o e => ?_)⟩) hk
  exact hsb₀.extBut b o (Nat.ne_of_lt (Heap.lt_size e)) (Heap.get?_push_of_some _ e)
end
end Mine

end
section
open PySem PySem.W PySem.Calls PyProof.Rows
namespace Mine
set_option maxRecDepth 100000
theorem caller_wp {M : Model} {t : Sem Fin} {R : Result → Shared → Prop} {s : Shared}
    (h : wpC M callerA t (fun fin s' => ∃ f, fin = .done f ∧ R (.ok f) s') (fun e s' => R (.error e) s') s) (p : Pos) :
    Sem.wp M ⟨.builtin "claim.caller" {}, none, none, [], none⟩ t (Sem.finPost M ⟨.builtin "claim.caller" {}, none, none, [], none⟩ R) (fun e _ s' => R (.error e) s') p s := by
  refine Sem.wp_mono M _ t (fun fin p' s' h' => ?_) (fun _ _ _ h' => h') p s (h _ p caller_in (by decide +kernel) fun x hx => nomatch hx)
  obtain ⟨f, rfl, hf⟩ := h'
  exact hf
theorem ends_C {prog : Program} {w : World} {t : Sem Fin} {s : Shared} {R : Result → Shared → Prop} (hreg : s.asleep)
    (h : wpC (model prog w) callerA t (fun fin s' => ∃ f, fin = .done f ∧ (R (.ok f) s' ∧ leftWithCleanup s'.gens = false)) (fun e s' => R (.error e) s' ∧ leftWithCleanup s'.gens = false) s) :
    ∃ n r s' s'', runN (denote table) prog w n s ⟨t, .builtin "claim.caller" {}, default, []⟩ = .halted (outcomeOf r) s' ∧
      schedN (denote table) prog w n (.single s ⟨t, .builtin "claim.caller" {}, default, []⟩) = .halted (outcomeOf r) s' ∧ s'.forget = s''.forget ∧ R r s'' := by
  obtain ⟨n, r, s₁, s₂, hs, hn, hfo, hR⟩ := wp_halts_full (M := model prog w) (R := R) hreg (caller_wp (R := fun r s' => R r s' ∧ leftWithCleanup s'.gens = false) h default)
  exact ⟨n, r, s₂, s₁, hn, hs, hfo, hR⟩
theorem callFrom_C {c : ClaimW} {tree : List Value → Sem Fin} {w : World} {s : Shared} {free : Addr → Prop} {gens : Prop} {kept : Heap → Prop} (hz : s.asleep) (hgens : s.gens = #[])
    (hspec : ∀ args, c.pre args = true → WData.layableAll args = true →
      ∀ ord : List DictEntry → List DictEntry, (∀ l, (ord l).Perm l) →
      ∃ vs s₁, layAllW c.records (classAt s.heap) w.params ord args s = some (vs, s₁) ∧
        wpC (model c.prog w) callerA (tree vs) (fun fin s' => ∃ f, fin = .done f ∧ (c.Ends s args vs s₁ (.ok f) s' ∧ s'.os = s.os ∧ AllBare s'.gens ∧ kept s'.heap))
          (fun e s' => c.Ends s args vs s₁ (.error e) s' ∧ s'.os = s.os ∧ AllBare s'.gens ∧ kept s'.heap) s₁) :
    c.CallFrom (fun vs => ⟨tree vs, .builtin "claim.caller" {}, default, []⟩) w free gens kept s := by
  intro args hpre hlay ord hord
  obtain ⟨vs, s₁, hlaid, hcode⟩ := hspec args hpre hlay ord hord
  have hal := layAllW_rest _ _ _ hlaid
  obtain ⟨k, r, s', s'', hrun, hsched, hfo, hcase, hos, hkp⟩ := ends_C (prog := c.prog) (w := w) (t := tree vs) (s := s₁)
    (R := fun r s' => c.Ends s args vs s₁ r s' ∧ s'.os = s.os ∧ kept s'.heap)
    (Shared.asleep_of_life hal.2.2.2 hz)
    (wpC_mono hcode (fun fin s' ⟨f, e, h1, h2, h3, h4⟩ => ⟨f, e, ⟨h1, h2, h4⟩, leftWithCleanup_false_of_bare h3⟩)
      (fun e s' ⟨h1, h2, h3, h4⟩ => ⟨⟨h1, h2, h4⟩, leftWithCleanup_false_of_bare h3⟩))
  obtain ⟨eh, _, _, eo, _⟩ := Shared.forget_eq hfo
  have hcase := hcase.congr eh
  rw [← eh] at hkp
  rw [← eo] at hos
  have hlife : s'.heap.life = s.heap.life := (runN_life _ _ _ hrun).trans hal.2.2.2
  refine ⟨vs, s₁, hlaid, k, _, s', hsched, ?_, (fun _ i x hx => by rw [hgens] at hx; simp at hx), hkp, by rw [hlife], Shared.rest_eq hos⟩
  rcases hcase with ⟨v, rfl, d1, d2, d3, d4, d5⟩ | ⟨e, ob, cls, rfl, d1, d2, d3, d4, d5⟩
  · exact .inl ⟨v, rfl, d1, d2, d3, fun b o y _ => d4 b o y, d5⟩
  · exact .inr ⟨e, ob, cls, rfl, d1, d2, d3, d4, fun b o y _ => d5 b o y⟩

/-- what is asked of the call, over clean contexts -/
abbrev WalkC (q : Program) (loose : List Str) (XP : (Str → Option Value) → Heap → Prop) (YP : World → Heap → Prop) (r : RowW) (d : DefRec) (kwd : List (Str × Expr)) : Prop :=
  ∀ (w : World) (s₀ s₁ : Shared) (mg mb : Str → Option Value), Ground q loose r.records XP w s₀ mg mb s₁.heap → YP w s₁.heap → ∀ (a : Addr) (o : Obj) (pm cd doc dV kV : Value), s₁.heap.get? a = some o →
    o.data = .func { docDef d.name d.params d.body d.scope pm cd doc with defaults := dV, kwdefaults := kV } → s₁.heap.CodeRec cd d.name → Dflts mg s₁.heap d.params kwd dV kV → mg d.name = some (.ref a) → s₁.gens = #[] →
    ∀ (args : List WData) (vals : List Value) (as : List Addr), r.claim.pre args = true → WData.layableAll args = true → ReadsAllW r.records (classAt s₀.heap) s₁.heap vals args as → WellAll w.params s₁.heap vals args → (∀ a ∈ as, (a == sysModules) = false) →
      wpC (model r.prog w) callerA (call (.ref a) vals) (fun v s' => GoodWG r.claim (classAt s₀.heap) (ExcName.means s₀.heap) args s₁ (.ok (.ret v)) s')
        (fun e s' => GoodWG r.claim (classAt s₀.heap) (ExcName.means s₀.heap) args s₁ (.error e) s') s₁

/-- the head's last lemma, with the weaker premise: the name is such that the head's tactic takes it inside this namespace -/
theorem PySem.W.holds_open {r : OpenRow} {q : Program} {loose : List Str} {Xt : Shared → Bool} {XP : (Str → Option Value) → Heap → Prop} {α : Type} {Yf : Shared → α} {Ya : World → α} {YP : World → Heap → Prop} {d : DefRec} {kwd : List (Str × Expr)} {N : Nat}
    (left : LeftO r.prog q loose Xt Yf Ya N) (hY : ∀ w s, Yf s = Ya w → YP w s.heap) (hYk : ∀ w h h', YP w h → (∀ b o, h.get? b = some o → h'.get? b = some o) → YP w h')
    (hX : ∀ s, Xt s = true → XP (s.heap.nsMap mainGlobals) s.heap) (hXk : ∀ mg h h', XP mg h → (∀ b o, h.get? b = some o → h'.get? b = some o) → XP mg h')
    (hdef : defOf q r.name = some (d, kwd)) (hp : r.prog.theDef r.name = some (d.params, d.body, d.scope)) (hk : kwWritten? d.params.kwonlyargs d.params.kw_defaults = some kwd) (hRf : ∀ s, Xt s = true → RecFacts r.records s.heap) (hwr : (!r.writes || r.records.isEmpty) = true)
    (k1 : r.wellSaid = true) (ok : (chainsOk q && opensWell r.prog && (frees r.toRowW && r.within.isEmpty)) = true) (hb : r.prog.bare) (hw : r.toRowW.promised)
    (walk : WalkC q loose XP YP r.toRowW d kwd) : r.Holds := by
  have pin : ∀ (w : World) (s : Shared), s.heap.isNs mainGlobals = true → Ground q loose [] XP w s (s.heap.nsMap mainGlobals) (s.heap.nsMap builtinsNs) s.heap → ∀ n ∈ (if r.pinned then [r.name] else []), isTheDefsW r.prog s.heap n := fun w s hg G n hn => by
    obtain rfl : n = r.name := by split at hn <;> simp_all
    exact pinned_of_view hg G hdef hp hk
  refine ⟨k1, hw, ?_⟩
  obtain ⟨ok, k5⟩ := Bool.and_eq_true_iff.mp ok
  obtain ⟨hch, o1⟩ := Bool.and_eq_true_iff.mp ok
  obtain ⟨k5, k6⟩ := Bool.and_eq_true_iff.mp k5
  obtain ⟨hsame, hu, ha, hap, hm⟩ := frees_parts k5
  refine ⟨⟨hb, o1, by show r.toRowW.makers.map _ = []; rw [hm]; rfl⟩, hw.witness, fun w => ⟨(left.behind hX hch w).1, fun s' hs' => ?_⟩⟩
  obtain ⟨s₀, hf, hg0, s, hT, hz, hgens, hg, G00, y⟩ := (left.behind (XP := fun mg h => XP mg h ∧ RecFacts r.records h) (fun s hs => ⟨hX s hs, hRf s hs⟩) hch w).2 s' hs'
  have G0 : Ground q loose [] XP w s (s.heap.nsMap mainGlobals) (s.heap.nsMap builtinsNs) s.heap := ⟨G00.T, G00.B, G00.D, G00.TE, G00.TD, G00.W, G00.X.1, G00.cls, G00.has, G00.apart, G00.once, G00.K⟩
  have RF := G00.X.2
  refine ⟨s₀, hf, hg0, s, hT, pin w s hg G0, RF.1, RF.2.1, ?_⟩
  have hgens : s.gens = #[] := Array.eq_empty_of_size_eq_zero (beq_iff_eq.mp hgens)
  have G : Ground q loose r.records XP w s _ _ s.heap := RF.ground G0
  refine callFrom_C (c := r.toRowW.claim) (tree := fun vs => do match ← nsGet mainNs r.name with
      | some f => do ret (← PySem.call f vs)
      | none => unsupported "claim.caller:no-such-global") hz hgens fun args hpre hlay ord hord => ?_
  obtain ⟨⟨vs, s₁⟩, hlaid⟩ := Option.isSome_iff_exists.mp (layAllW_isSome (P := w.params) (ord := ord) G.has args r.args s (pre_splitW hpre).1)
  have keeps := layAllW_keeps _ _ _ hlaid
  have hal := layAllW_rest _ _ _ hlaid
  obtain ⟨as, hrd, hin, hold⟩ := reads_layAllW hord _ _ _ hlaid hlay s₁.heap (fun _ _ e => e)
  have L : Laid r.records w s s₁ args vs as := ⟨⟨ord, hord, hlaid⟩, hrd, hin, hold, keeps, hal.1.trans hgens, hal.2.2.1⟩
  have G₁ := G.keeps hXk keeps
  obtain ⟨a, o, pm, cd, doc, dV, kV, h1, h2, h3, h4, h5⟩ := G₁.fn hdef
  have hi := ident_freeW hu ha hap
  have hwi : r.toRowW.claim.within = [] := List.isEmpty_iff.mp k6
  refine ⟨vs, s₁, hlaid, ?_⟩
  refine wpC_bindA (wpAny_nsGet G₁.T.g ?_)
  rw [h1]
  have W := walk w s s₁ _ _ G₁ (hYk _ _ _ (hY w s y) keeps) a o pm cd doc dV kV h2 h3 h4 h5 (defOf_name hdef ▸ h1) L.gens args vs as hpre hlay L.reads L.well (L.low G.low)
  refine wpC_bind (wpC_mono W (fun v s' g => wpC_pure ⟨_, rfl, ?_⟩) fun e s' g => ?_)
  · have z := g.laid (c := r.toRowW.claim) hsame hwi hi L
    exact ⟨z.1, z.2.1, z.2.2, fun q => ⟨namesKept_of hT hg _ keeps g.2.1.old, noTable hwr q⟩⟩
  · have z := g.laid (c := r.toRowW.claim) hsame hwi hi L
    exact ⟨z.1, z.2.1, z.2.2, fun q => ⟨namesKept_of hT hg _ keeps g.2.1.old, noTable hwr q⟩⟩
end Mine

end
section
open PySem PySem.W PyProof.Rows
namespace Mine
set_option maxRecDepth 100000 in
set_option maxHeartbeats 8000000 in
open_top hd for PySem.Challenge.rw_ez0013_01
end Mine

end
section
open PySem PySem.W PySem.Calls PyProof.Rows
namespace Mine
set_option maxRecDepth 100000
namespace BA
theorem mro : mroOf (.type "bytearray") = pure [.type "bytearray", .type "object"] := by rw [mroOf_type]; kernel_rfl
theorem lookup_new : typeLookup (.type "bytearray") "__new__" = pure (some (.builtin "bytearray.__new__")) := by rw [typeLookup_type, builtinLookup_eq_fast]; kernel_rfl
theorem slot_init : Slot "bytearray" "__init__" "bytearray.__init__" :=
  .of (owner := "bytearray") (n := "__init__") (by rw [typeLookup_type, builtinLookup_eq_fast]; kernel_rfl) (by decide +kernel) (by decide +kernel) (by decide +kernel)
    (by first | exact .inl (by decide +kernel) | exact .inr (by decide +kernel)) (by rw [isSubtype_type]; kernel_rfl)
theorem made : Bind.madeBy (.type "bytearray") = pure (some "bytearray.__new__") := madeBy_type mro lookup_new (by decide +kernel)
theorem typeCall (a : Value) : checkTypeCall "bytearray" ⟨[a], []⟩ = pure () := by kernel_rfl
theorem newCall (a : Value) : checkBuiltinCall "bytearray.__new__" ⟨[.type "bytearray", a], []⟩ = pure () := by kernel_rfl
theorem plain_new : plainId "bytearray.__new__" = true := by decide +kernel
theorem entry_new : entryFor table "bytearray.__new__" = some Builtin.«list.__new__» := entryFor_alias (id' := "list.__new__") (by kernel_rfl) rfl (by decide +kernel) (by kernel_rfl)
theorem owner_new : ("bytearray.__new__".splitOn ".__new__").headD "" = "bytearray" := by rw [split_bytearray]; rfl
theorem sub_self : isSubtype (.type "bytearray") (.type "bytearray") = pure true := by rw [isSubtype_type]; kernel_rfl
theorem notType : (Value.type "bytearray" == Value.type "type") = false := by decide +kernel
theorem canCreate : ((Manifest.find? "bytearray").bind (·.mro.findSome? fun t => (Manifest.find? t).bind fun b => if b.noNew then some true else if b.attrs.any (·.1 == "__new__") then some false else none)).getD false = false := by decide +kernel
theorem entry_init : entryFor table "bytearray.__init__" = some Builtin.«bytearray.__init__» := by first | exact entryFor_of_fast (by kernel_rfl) | exact entryFor_of_tree (by kernel_rfl)
theorem slot_len : Slot "bytearray" "__len__" "bytearray.__len__" :=
  .of (owner := "bytearray") (n := "__len__") (by rw [typeLookup_type, builtinLookup_eq_fast]; kernel_rfl) (by decide +kernel) (by decide +kernel) (by decide +kernel)
    (by first | exact .inl (by decide +kernel) | exact .inr (by decide +kernel)) (by rw [isSubtype_type]; kernel_rfl)
theorem slot_item : Slot "bytearray" "__getitem__" "bytearray.__getitem__" :=
  .of (owner := "bytearray") (n := "__getitem__") (by rw [typeLookup_type, builtinLookup_eq_fast]; kernel_rfl) (by decide +kernel) (by decide +kernel) (by decide +kernel)
    (by first | exact .inl (by decide +kernel) | exact .inr (by decide +kernel)) (by rw [isSubtype_type]; kernel_rfl)
theorem entry_len : entryFor table "bytearray.__len__" = some Builtin.«bytearray.__len__» := by first | exact entryFor_of_fast (by kernel_rfl) | exact entryFor_of_tree (by kernel_rfl)
theorem entry_item : entryFor table "bytearray.__getitem__" = some Builtin.«bytearray.__getitem__» := by first | exact entryFor_of_fast (by kernel_rfl) | exact entryFor_of_tree (by kernel_rfl)
theorem look_release : typeLookup (.type "bytearray") "__release_buffer__" = pure (some (.builtin "bytearray.__release_buffer__")) := by rw [typeLookup_type, builtinLookup_eq_fast]; kernel_rfl
theorem look_buffer : typeLookup (.type "bytearray") "__buffer__" = pure (some (.builtin "bytearray.__buffer__")) := by rw [typeLookup_type, builtinLookup_eq_fast]; kernel_rfl
theorem look_bytes : typeLookup (.type "bytearray") "__bytes__" = pure none := by rw [typeLookup_type, builtinLookup_eq_fast]; kernel_rfl
theorem look_index : typeLookup (.type "bytearray") "__index__" = pure none := by rw [typeLookup_type, builtinLookup_eq_fast]; kernel_rfl
theorem b_look_buffer : typeLookup (.type "bytes") "__buffer__" = pure (some (.builtin "bytes.__buffer__")) := by rw [typeLookup_type, builtinLookup_eq_fast]; kernel_rfl
theorem b_look_index : typeLookup (.type "bytes") "__index__" = pure none := by rw [typeLookup_type, builtinLookup_eq_fast]; kernel_rfl
theorem b_look_release : typeLookup (.type "bytes") "__release_buffer__" = pure none := by rw [typeLookup_type, builtinLookup_eq_fast]; kernel_rfl
theorem bindI (v : Value) : Builtin.Bytes.bindOptional "bytearray.__init__" "bytearray" ["source", "encoding", "errors"] [v] [] = pure [some v, none, none] := by kernel_rfl
theorem init_clean {as : Args} : isDec (.builtin "bytearray.__init__" as) = false := by show decIds.contains "bytearray.__init__" = false; decide +kernel
theorem call_clean {as : Args} : isDec (.builtin "type.__call__" as) = false := by show decIds.contains "type.__call__" = false; decide +kernel
end BA
section
variable {prog : Program} {w : World} {A : Around} {E : Value → Shared → Prop} {s : Shared}

theorem codeC_builtin {id : String} {args : Args} {b : Builtin} {R : Result → Shared → Prop} (hb : entryFor table id = some b)
    (h : wpC (model prog w) (A.under (.builtin id args)) (b args)
      (fun fin s' => match fin with | .done f => R (.ok f) s' | .again c' => c'.quiet = true ∧ codeC (model prog w) A c' R s') (fun e s' => R (.error e) s') s) (hd : isDec (.builtin id args) = false := by rfl) :
    codeC (model prog w) A (.builtin id args) R s := by
  refine codeC_of_tree ?_ hd
  show wpC _ _ (match entryFor table id with | some b => b args | none => _) _ _ s
  rw [hb]
  exact h
theorem codeC_call_builtin {id : String} {args : Args} {b : Builtin} {R : Result → Shared → Prop} (hq : plainId id = true) (hb : entryFor table id = some b)
    (h : wpAny (model prog w) A.in1 (checkBuiltinCall id args) (fun _ s₁ => wpC (model prog w) A.in1 (b args)
      (fun fin s' => match fin with | .done f => R (.ok f) s' | .again c' => c'.quiet = true ∧ codeC (model prog w) A c' R s') (fun e s' => R (.error e) s') s₁)
      (fun e s' => R (.error e) s') s) (hd : isDec (.builtin id args) = false := by rfl) : codeC (model prog w) A (.call (.builtin id) args) R s := by
  refine codeC_of_tree ?_
  show wpC _ A.in1 (do checkBuiltinCall id args; again (.builtin id args)) _ _ s
  refine wpC_bindA (wpAny_mono h (fun _ s₁ h₁ => wpC_pure ⟨plainId_quiet hq _, codeC_builtin hb ?_ hd⟩) fun _ _ x => x)
  rw [Around.under_plainId hq args]
  exact h₁
theorem code_ba_new (a : Value) {Q₁ : Value → Shared → Prop}
    (h : Q₁ (.ref s.heap.objs.size) { s with heap := s.heap.push { cls := .type "bytearray", data := .bytearray #[] } }) :
    codeAny (model prog w) A (.call (.builtin "bytearray.__new__") ⟨[.type "bytearray", a], []⟩) (wants Q₁ E) s := by
  refine codeAny_of_tree ?_
  show wpAny _ A.in1 (do checkBuiltinCall "bytearray.__new__" ⟨[.type "bytearray", a], []⟩; again (.builtin "bytearray.__new__" ⟨[.type "bytearray", a], []⟩)) _ _ s
  refine wpAny_bind (wpAny_of_eq (BA.newCall a) (wpAny_pure ⟨plainId_quiet BA.plain_new _, codeAny_builtin_stack BA.entry_new rfl fun p st => ?_⟩))
  rw [Around.under_plainId BA.plain_new _]
  have hsub := BA.sub_self
  have hown := BA.owner_new
  obtain ⟨hp, g, d, tk, os⟩ := s
  simp only [hown]
  wp_walk
  exact h
theorem if_falseC {α : Type} {M : Model} {c : Bool} {a b : Sem α} {Q : α → Shared → Prop} (hc : c = false) (h : wpC M A b Q E s) : wpC M A (if c = true then a else b) Q E s := by
  subst hc
  exact h
theorem if_trueC {α : Type} {M : Model} {c : Bool} {a b : Sem α} {Q : α → Shared → Prop} (hc : c = true) (h : wpC M A a Q E s) : wpC M A (if c = true then a else b) Q E s := by
  subst hc
  exact h
theorem ba_ownRelease {v : Value} {Q : Bool → Shared → Prop} (hT : s.TypeIs v "bytearray") (h : Q false s) : wpAny (model prog w) A (Builtin.Bytes.ownRelease v) Q E s := by
  unfold Builtin.Bytes.ownRelease Builtin.Bytes.slotIsOwn
  refine wpAny_bind (wpAny_bind (wpAny_specialOf hT BA.look_release ?_))
  show wpAny _ _ (if (!("bytearray.__release_buffer__".endsWith ("." ++ "__release_buffer__"))) = true then _ else _) _ _ _
  refine wpAny_ite_false (by decide +kernel) ?_
  show wpAny _ _ (isInstance v (.type ("bytearray.__release_buffer__".dropRight ("__release_buffer__".length + 1)))) _ _ _
  rw [show ("bytearray.__release_buffer__".dropRight ("__release_buffer__".length + 1)) = "bytearray" by decide +kernel]
  exact wpAny_isInstance hT BA.sub_self (wpAny_pure h)
theorem ba_write {a : Addr} {b : Array UInt8} {f : Array UInt8 → Array UInt8} {Q : Unit → Shared → Prop} (ho : s.heap.get? a = some { cls := .type "bytearray", data := .bytearray b }) (hz : (f b).size ≤ sizeLine)
    (h : ∀ h', h'.get? a = some { cls := .type "bytearray", data := .bytearray (f b) } → Heap.SameBut a s.heap h' → Q () { s with heap := h' }) : wpAny (model prog w) A (Builtin.Bytes.write (.ref a) f) Q E s := by
  show wpAny _ _ (updateBytearray a f) _ _ _
  unfold updateBytearray
  refine wpAny_bind (wpAny_load ho ?_)
  show wpAny _ _ (update a (Obj.mapBytearray f) >>= fun _ => lookBehind a) _ _ _
  refine wpAny_bind (wpAny_update ho ?_)
  have h2 : (s.heap.update a (Obj.mapBytearray f)).get? a = some { cls := .type "bytearray", data := .bytearray (f b) } := Heap.get?_update_self (Obj.mapBytearray f) ho rfl
  refine wpAny_lookBehind h2 ?_ (h _ h2 (Heap.SameBut.update ..))
  show (if (f b).size > sizeLine then some "bytearray:memory" else none) = none
  rw [if_neg (Nat.not_lt.mpr hz)]
theorem b_buffer {id : String} {b : Array UInt8} {t : Tok} {full : Bool} {Q : Option (Array UInt8) → Shared → Prop} (h : Q (some b) s) : wpAny (model prog w) A (Builtin.Bytes.buffer? id (.bytes b t) full) Q E s := by
  unfold Builtin.Bytes.buffer?
  refine wpAny_bind (wpAny_specialOf (PySem.W.typeIs_bytes s b t) BA.b_look_buffer ?_)
  dsimp only
  refine wpAny_bind ?_
  unfold Builtin.Bytes.slotIsOwn
  refine wpAny_bind (wpAny_specialOf (PySem.W.typeIs_bytes s b t) BA.b_look_buffer ?_)
  show wpAny _ _ (if (!("bytes.__buffer__".endsWith ("." ++ "__buffer__"))) = true then _ else _) _ _ _
  refine wpAny_ite_false (by decide +kernel) ?_
  show wpAny _ _ (isInstance _ (.type ("bytes.__buffer__".dropRight ("__buffer__".length + 1)))) _ _ _
  rw [show ("bytes.__buffer__".dropRight ("__buffer__".length + 1)) = "bytes" by decide +kernel]
  refine wpAny_isInstance (PySem.W.typeIs_bytes s b t) F.bm_sub ?_
  refine wpAny_ite_false (by decide) ?_
  refine wpAny_bind (wpAny_specialOf (PySem.W.typeIs_bytes s b t) BA.b_look_buffer ?_)
  refine wpAny_bind ?_
  unfold Builtin.Bytes.ownRelease Builtin.Bytes.slotIsOwn
  refine wpAny_bind (wpAny_bind (wpAny_specialOf (PySem.W.typeIs_bytes s b t) BA.b_look_release (wpAny_pure (wpAny_pure ?_))))
  refine wpAny_ite_false (by decide) ?_
  exact wpAny_bind (wpAny_of_eq (a := b) rfl (wpAny_pure h))
theorem code_ba_init {a : Addr} {b : Array UInt8} {t : Tok} {R : Result → Shared → Prop} (ho : s.heap.get? a = some { cls := .type "bytearray", data := .bytearray #[] }) (hz : b.size ≤ sizeLine)
    (h : ∀ h', h'.get? a = some { cls := .type "bytearray", data := .bytearray b } → Heap.SameBut a s.heap h' → R (.ok (.ret .none)) { s with heap := h' }) :
    codeC (model prog w) A (.call (.builtin "bytearray.__init__") ⟨[.ref a, .bytes b t], []⟩) R s := by
  have hT : s.TypeIs (.ref a) "bytearray" := ⟨_, ho, rfl⟩
  refine codeC_call_builtin BA.slot_init.plain BA.entry_init (BA.slot_init.check _ _ _ _ _ _ _ _ hT (by unfold argsOk; kernel_rfl) ?_) BA.init_clean
  unfold Builtin.«bytearray.__init__»
  refine wpC_bindA (ba_ownRelease hT ?_)
  refine if_falseC rfl ?_
  refine wpC_bind (wpC_of_eq (BA.bindI _) ?_)
  refine wpC_bind (wpC_of_eq (a := ()) rfl ?_)
  refine wpC_bind (wpC_of_eq (a := ()) rfl ?_)
  refine wpC_bind ?_
  show wpC _ _ (Builtin.Bytes.exported (.ref a) >>= fun x => _) _ _ _
  refine wpC_bind (exported_C ?_)
  show wpC _ _ (Builtin.Bytes.exportsOf (.ref a) >>= fun x => _) _ _ _
  refine wpC_bindA ?_
  unfold Builtin.Bytes.exportsOf
  refine wpAny_bind (wpAny_load ho (wpAny_pure (wpC_pure ?_)))
  refine if_falseC rfl ?_
  refine wpC_bindA (ba_write (f := fun _ => #[]) ho (Nat.zero_le _) fun h1 ho1 hs1 => ?_)
  refine wpC_bind (wpC_of_eq (a := none) rfl ?_)
  refine if_falseC rfl ?_
  refine wpC_bind (wpC_of_eq (a := ()) rfl ?_)
  refine wpC_bindA (wpAny_specialOf (PySem.W.typeIs_bytes _ b t) BA.b_look_index ?_)
  refine if_falseC rfl ?_
  refine wpC_bindA (b_buffer ?_)
  refine wpC_bindA (wpAny_rule ?_)
  refine wpC_bindA (ba_write (f := fun _ => b) ho1 hz fun h2 ho2 hs2 => ?_)
  refine wpC_pure ?_
  exact h h2 ho2 (hs1.trans hs2)
/-- bytearray(b), over clean contexts -/
theorem call_ba {b : Array UInt8} {t : Tok} {Q : Value → Shared → Prop} (hz : b.size ≤ sizeLine)
    (h : ∀ h', (∀ c o, s.heap.get? c = some o → h'.get? c = some o) → h'.get? s.heap.objs.size = some { cls := .type "bytearray", data := .bytearray b } → Q (.ref s.heap.objs.size) { s with heap := h' }) :
    wpC (model prog w) A (call (.type "bytearray") [.bytes b t]) Q E s := by
  refine wpC_call (codeC_of_tree ?_)
  show wpC _ _ (callAny (.type "bytearray") _) _ _ _
  refine wpC_pure ⟨Code.quiet_builtin _ (by decide +kernel), codeC_builtin F.entry_type_call ?_ BA.call_clean⟩
  rw [Around.under_plain (weight_type_call_type "bytearray" _ []) (units_type_call_type "bytearray" _ [])]
  unfold Builtin.«type.__call__»
  simp only [BA.notType, Bool.false_eq_true, if_false, BA.canCreate, BA.typeCall, BA.mro, BA.made, pure_bind, List.isEmpty_cons]
  refine wpC_bindA (wpAny_holding (wpAny_call (code_ba_new _ (E := fun _ _ => False) (Q₁ := fun v s1 => v = .ref s.heap.objs.size ∧ s1 = { s with heap := s.heap.push { cls := .type "bytearray", data := .bytearray #[] } }) ⟨rfl, rfl⟩ |> fun g => codeAny_mono g fun r s1 hr => ?_)))
  obtain e | (v | _ | _ | _) := r
  · exact hr.elim
  all_goals first | exact hr.elim | skip
  obtain ⟨rfl, rfl⟩ := hr
  have ho : (s.heap.push { cls := .type "bytearray", data := .bytearray #[] }).get? s.heap.objs.size = some { cls := .type "bytearray", data := .bytearray #[] } := Heap.get?_push_size _ rfl
  have hT : ({ s with heap := s.heap.push { cls := .type "bytearray", data := .bytearray #[] } } : Shared).TypeIs (.ref s.heap.objs.size) "bytearray" := ⟨_, ho, rfl⟩
  refine wpC_bindA (wpAny_isInstance hT BA.sub_self ?_)
  refine if_falseC rfl ?_
  refine wpC_bind (wpC_holding ?_)
  unfold callSpecial?
  refine wpC_bindA (wpAny_specialOf hT BA.slot_init.lookup ?_)
  simp only [BA.slot_init.bind]
  refine wpC_holding (wpC_bind (wpC_pure (wpC_bind (wpC_call ?_))))
  refine code_ba_init ho hz fun h2 ho2 hs2 => ?_
  refine wpC_pure ?_
  refine if_falseC rfl ?_
  refine wpC_pure ?_
  exact h h2 (fun c o e => hs2.extBut c o (Nat.ne_of_lt (Heap.lt_size e)) (Heap.get?_push_of_some _ e)) ho2
end
end Mine

end
section
open PySem PySem.W PySem.Calls PyProof.Rows
namespace Mine
set_option maxRecDepth 100000
namespace BA
theorem b_look_bytes : typeLookup (.type "bytes") "__bytes__" = pure (some (.builtin "bytes.__bytes__")) := by rw [typeLookup_type, builtinLookup_eq_fast]; kernel_rfl
theorem ba_no_bool : typeLookup (.type "bytearray") "__bool__" = pure none := by rw [typeLookup_type, builtinLookup_eq_fast]; kernel_rfl
end BA
section
variable {prog : Program} {w : World} {A : Around} {E : Value → Shared → Prop} {s : Shared}
theorem ba_buffer {id : String} {a : Addr} {b : Array UInt8} {full : Bool} {Q : Option (Array UInt8) → Shared → Prop} (ho : s.heap.get? a = some { cls := .type "bytearray", data := .bytearray b }) (h : Q (some b) s) : wpAny (model prog w) A (Builtin.Bytes.buffer? id (.ref a) full) Q E s := by
  have hT : s.TypeIs (.ref a) "bytearray" := ⟨_, ho, rfl⟩
  unfold Builtin.Bytes.buffer?
  refine wpAny_bind (wpAny_specialOf hT BA.look_buffer ?_)
  dsimp only
  refine wpAny_bind ?_
  unfold Builtin.Bytes.slotIsOwn
  refine wpAny_bind (wpAny_specialOf hT BA.look_buffer ?_)
  show wpAny _ _ (if (!("bytearray.__buffer__".endsWith ("." ++ "__buffer__"))) = true then _ else _) _ _ _
  refine wpAny_ite_false (by decide +kernel) ?_
  show wpAny _ _ (isInstance _ (.type ("bytearray.__buffer__".dropRight ("__buffer__".length + 1)))) _ _ _
  rw [show ("bytearray.__buffer__".dropRight ("__buffer__".length + 1)) = "bytearray" by decide +kernel]
  refine wpAny_isInstance hT BA.sub_self ?_
  refine wpAny_ite_false (by decide) ?_
  refine wpAny_bind (wpAny_specialOf hT BA.look_buffer ?_)
  refine wpAny_bind (ba_ownRelease hT ?_)
  refine wpAny_ite_false (by decide) ?_
  refine wpAny_bind ?_
  unfold Builtin.Bytes.payload Builtin.Bytes.payload?
  refine wpAny_bind (wpAny_bind (wpAny_load ho ?_))
  exact wpAny_pure (wpAny_pure (wpAny_pure h))
theorem call_bytes_of {v : Value} {b : Array UInt8} {Q : Value → Shared → Prop}
    (hnew : ∀ (Q₁ : Value → Shared → Prop), (∀ t k, Q₁ (.bytes b t) { s with toks := k }) → codeAny (model prog w) A.in1 (.call (.builtin "bytes.__new__") ⟨[.type "bytes", v], []⟩) (wants Q₁ E) s)
    (h : ∀ t k, Q (.bytes b t) { s with toks := k }) : wpAny (model prog w) A (call (.type "bytes") [v]) Q E s := by
  refine callType_codes (Q₁ := fun obj s₁ => s₁.TypeIs obj "bytes" ∧ Q obj s₁) F.bm_called (F.bm_typeCall _) F.entry_object_init (hnew _ fun t k => ⟨PySem.W.typeIs_bytes _ _ _, h t k⟩) fun obj s₁ h₁ => ?_
  exact ⟨h₁.1, F.args_object_init_2 obj _, object_init_meets F.bm_called.init.lookup F.bm_called.made (by decide) prog w A.in1 _ s₁ ⟨h₁.1, rfl, h₁.2⟩⟩
/-- bytes(b) of bytes -/
theorem bytes_of_bytes {b : Array UInt8} {t : Tok} {Q : Value → Shared → Prop} (h : Q (.bytes b t) s) : wpAny (model prog w) A (call (.type "bytes") [.bytes b t]) Q E s := by
  refine callType_codes (Q₁ := fun obj s₁ => s₁.TypeIs obj "bytes" ∧ Q obj s₁) F.bm_called (F.bm_typeCall _) F.entry_object_init ?_ fun obj s₁ h₁ =>
    ⟨h₁.1, F.args_object_init_2 obj _, object_init_meets F.bm_called.init.lookup F.bm_called.made (by decide) prog w A.in1 _ s₁ ⟨h₁.1, rfl, h₁.2⟩⟩
  refine codeAny_of_tree ?_
  show wpAny _ A.in1.in1 (do checkBuiltinCall "bytes.__new__" ⟨[.type "bytes", .bytes b t], []⟩; again (.builtin "bytes.__new__" ⟨[.type "bytes", .bytes b t], []⟩)) _ _ s
  refine wpAny_bind (wpAny_of_eq (F.bm_newCall _) (wpAny_pure ⟨plainId_quiet F.bm_plain _, codeAny_builtin F.bm_entry ?_⟩))
  rw [Around.under_plainId F.bm_plain _]
  unfold Builtin.«bytes.__new__»
  refine wpAny_bind (wpAny_of_eq (a := true) rfl ?_)
  refine wpAny_ite_false rfl ?_
  refine wpAny_bind (wpAny_of_eq F.bm_sub ?_)
  refine wpAny_ite_false rfl ?_
  refine wpAny_bind (wpAny_of_eq (F.bm_bind _) ?_)
  refine wpAny_bind (wpAny_of_eq (a := ()) rfl ?_)
  refine wpAny_bind (wpAny_of_eq (a := ()) rfl ?_)
  refine wpAny_ite_false rfl ?_
  refine wpAny_bind (wpAny_specialOf (PySem.W.typeIs_bytes s b t) BA.b_look_bytes ?_)
  refine wpAny_bind (wpAny_rule ?_)
  refine wpAny_bind (wpAny_typeOf (PySem.W.typeIs_bytes s b t) ?_)
  refine wpAny_ite_true rfl ?_
  exact wpAny_pure ⟨PySem.W.typeIs_bytes _ _ _, h⟩
/-- bytes(b) of a bytearray -/
theorem bytes_of_ba {a : Addr} {b : Array UInt8} {Q : Value → Shared → Prop} (ho : s.heap.get? a = some { cls := .type "bytearray", data := .bytearray b }) (hz : b.size ≤ sizeLine)
    (h : ∀ t k, Q (.bytes b t) { s with toks := k }) : wpAny (model prog w) A (call (.type "bytes") [.ref a]) Q E s := by
  refine call_bytes_of (fun Q₁ h₁ => ?_) h
  have hT : s.TypeIs (.ref a) "bytearray" := ⟨_, ho, rfl⟩
  refine codeAny_of_tree ?_
  show wpAny _ A.in1.in1 (do checkBuiltinCall "bytes.__new__" ⟨[.type "bytes", .ref a], []⟩; again (.builtin "bytes.__new__" ⟨[.type "bytes", .ref a], []⟩)) _ _ s
  refine wpAny_bind (wpAny_of_eq (F.bm_newCall _) (wpAny_pure ⟨plainId_quiet F.bm_plain _, codeAny_builtin F.bm_entry ?_⟩))
  rw [Around.under_plainId F.bm_plain _]
  unfold Builtin.«bytes.__new__»
  refine wpAny_bind (wpAny_of_eq (a := true) rfl ?_)
  refine wpAny_ite_false rfl ?_
  refine wpAny_bind (wpAny_of_eq F.bm_sub ?_)
  refine wpAny_ite_false rfl ?_
  refine wpAny_bind (wpAny_of_eq (F.bm_bind _) ?_)
  refine wpAny_bind (wpAny_of_eq (a := ()) rfl ?_)
  refine wpAny_bind (wpAny_of_eq (a := ()) rfl ?_)
  refine wpAny_ite_false rfl ?_
  refine wpAny_bind (wpAny_specialOf hT BA.look_bytes ?_)
  refine wpAny_bind (wpAny_bind ?_)
  show wpAny _ _ (load a >>= _) _ _ _
  refine wpAny_bind (wpAny_load ho (wpAny_pure (wpAny_pure ?_)))
  refine wpAny_ite_false rfl ?_
  refine wpAny_bind (wpAny_specialOf hT BA.look_index ?_)
  refine wpAny_ite_true rfl ?_
  first
    | show wpAny _ _ (Builtin.Bytes.buffer? "bytes.__new__" (.ref a) true >>= _) _ _ _
    | (refine wpAny_bind ?_; show wpAny _ _ (Builtin.Bytes.buffer? "bytes.__new__" (.ref a) true >>= _) _ _ _)
  refine wpAny_bind (ba_buffer ho ?_)
  refine wpAny_bind (wpAny_rule ?_)
  refine wpAny_bind (wpAny_mkBytes ?_ hz)
  show wpAny _ _ (if (Value.type "bytes" == Value.type "bytes") = true then _ else _) _ _ _
  refine wpAny_ite_true (by decide) ?_
  exact wpAny_pure (h₁ _ _)
/-- len of a bytearray -/
theorem len_ba {a : Addr} {b : Array UInt8} {Q : Value → Shared → Prop} (ho : s.heap.get? a = some { cls := .type "bytearray", data := .bytearray b }) (hz : b.size ≤ 1099511627776)
    (h : Q (.int b.size (s.toks + 1)) { s with toks := s.toks + 1 + 1 }) : wpAny (model prog w) A (call (.builtin "len") [.ref a]) Q E s := by
  have hT : s.TypeIs (.ref a) "bytearray" := ⟨_, ho, rfl⟩
  refine call_function_entry kind_len plain_len entry_len (args_len1 _) ?_
  unfold Builtin.«len»
  refine wpAny_bind (m := oneArg "len" _) (wpAny_pure ?_)
  refine wpAny_bind (m := callSpecial? _ (Str.ofString "__len__")) (wpAny_callSpecial?_slot (name := Str.ofString "__len__") hT BA.slot_len (wpAny_call_entry BA.slot_len hT BA.entry_len ?_ (by unfold argsOk; kernel_rfl)))
  show wpAny _ _ (Builtin.Bytes.payload (.ref a) >>= fun x => retInt (x.size : Nat)) _ _ _
  refine wpAny_bind ?_
  unfold Builtin.Bytes.payload Builtin.Bytes.payload?
  refine wpAny_bind (wpAny_bind (wpAny_load ho (wpAny_pure (wpAny_pure ?_))))
  refine wpAny_bind (wpAny_mkInt (wpAny_pure ⟨_, rfl, ?_⟩))
  refine wpAny_bind (wpAny_holding (wpAny_of_eq (a := (b.size : Int)) rfl ?_))
  refine wpAny_bind (wpAny_letGo ?_)
  dsimp only
  rw [if_neg (by omega), if_neg (by omega)]
  exact wpAny_bind (wpAny_mkInt (wpAny_pure ⟨_, rfl, h⟩))
/-- a cut of a bytearray -/
theorem ba_cut {value slice : PySem.Expr} {q a : Addr} {b : Array UInt8} {lo hi : Int} {t1 t2 : Tok} {Q : Value → Shared → Prop} (ho : s.heap.get? q = some { cls := .type "bytearray", data := .bytearray b })
    (hs : s.heap.IsSliceOf a (.int lo t1) (.int hi t2) .none) (hz : b.size ≤ sizeLine)
    (h : Q (.ref s.heap.objs.size) { s with heap := s.heap.push { cls := .type "bytearray", data := .bytearray (KBy.picked b (some lo) (some hi)) } })
    (hsub : subscripted slice false (.ref q) (.ref a) = operate [.ref a, .ref q] (getItem (.ref q) (.ref a)) := by with_unfolding_all rfl) :
    wpAny (model prog w) A (subscriptTail value slice (.ref q) (.ref a)) Q E s := by
  have hT : s.TypeIs (.ref q) "bytearray" := ⟨_, ho, rfl⟩
  obtain ⟨o, hoa, hoc, hod⟩ := hs
  have hTs : s.TypeIs (.ref a) "slice" := ⟨o, hoa, hoc⟩
  have g : wpAny (model prog w) A (getItem (.ref q) (.ref a)) (fun v s' => v = .ref s.heap.objs.size ∧ s' = { s with heap := s.heap.push { cls := .type "bytearray", data := .bytearray (KBy.picked b (some lo) (some hi)) } }) E s := by
    refine wpAny_getItem_slot hT (by decide) BA.slot_item (wpAny_call_entry BA.slot_item hT BA.entry_item ?_ (by unfold argsOk; kernel_rfl))
    show wpAny _ _ (Builtin.Bytes.subscript? (.ref a) >>= fun r => _) _ _ s
    refine wpAny_bind ?_
    unfold Builtin.Bytes.subscript?
    refine wpAny_bind (wpAny_specialOf hTs slice_no_index (wpAny_pure ?_))
    refine wpAny_bind (wpAny_typeOf hTs ?_)
    show wpAny _ _ (Builtin.Bytes.sliceParts (.ref a) >>= fun r => _) _ _ s
    refine wpAny_bind ?_
    unfold Builtin.Bytes.sliceParts
    refine wpAny_bind (wpAny_field (x := .none) hoa hod rfl ?_)
    kby_none
    refine wpAny_ite (KBy.ite_no (show ¬ ((Value.none == rawInt 0) = true) from Bool.false_ne_true) ?_)
    refine wpAny_bind (wpAny_field (x := .int lo t1) hoa hod rfl ?_)
    kby_int
    refine wpAny_bind (wpAny_field (x := .int hi t2) hoa hod rfl ?_)
    kby_int
    refine wpAny_pure ?_
    refine wpAny_bind ?_
    unfold Builtin.Bytes.payload Builtin.Bytes.payload?
    refine wpAny_bind (wpAny_bind (wpAny_load ho (wpAny_pure (wpAny_pure ?_))))
    refine wpAny_bind (wpAny_of_eq (sliceIndices_raw (some lo) (some hi) none b.size (fun e => nomatch e)) ?_)
    refine wpAny_bind ?_
    unfold Builtin.Bytes.newBytearray
    exact wpAny_newObj_type (wpAny_pure ⟨_, rfl, rfl, rfl⟩) (Nat.le_trans (KBc.size_picked_le b (some lo) (some hi)) hz)
  refine tail_any hT BA.slot_item.lookup (wpAny_mono g (fun v s' hv => ?_) fun _ _ x => x) hsub
  obtain ⟨rfl, rfl⟩ := hv
  exact h
end
section
variable {prog : Program} {w : World} {A : Around} {E : Value → Shared → Prop} {s : Shared}
theorem len_bytes_at {b : Array UInt8} {t : Tok} {n : Int} {Q : Value → Shared → Prop} (e : (b.size : Int) = n) (hn : n ≤ 1099511627776) (h : ∀ t k, Q (.int n t) { s with toks := k }) : wpAny (model prog w) A (call (.builtin "len") [.bytes b t]) Q E s := by
  subst e
  exact len_bytes (by omega) (h _ _)
theorem truthy_bytes_at {b : Array UInt8} {t : Tok} {n : Int} {Q : Bool → Shared → Prop} (e : (b.size : Int) = n) (hn : n ≤ 1099511627776) (h : ∀ k, Q (n != 0) { s with toks := k }) : wpAny (model prog w) A (truthy (.bytes b t)) Q E s := by
  subst e
  exact truthy_bytes (by omega) (h _)
end
end Mine

end
section
open PySem PySem.W PySem.Calls PyProof.Rows
namespace Mine
set_option maxRecDepth 100000
section
variable {prog : Program} {w : World} {A₀ A : Around} {s : Shared} {base h₀ : Heap} {outer : List Env} {L : Addr} {m : Str → Option Value} {env : Env} {K : Frag} {p : Program} {loose : List Str} {mean : ExcName → Option Value} {mg mb : Str → Option Value}
  {R : Result → Shared → Prop} {name qual : Str} {params : Arguments} {body : List Stmt} {scope : Scope} {dV kV doc pm cdv ct oc : Value} {an od : Option Addr} {osl : Array (Option Value)} {f : Addr} {args : Args} {binds : List (Str × Value)}
/-- the whole heap as the callee's ground -/
theorem own_below (B : Below A₀ base outer h₀) (F : Fr h₀ L s.heap m) (hA : A.frames = some (env :: outer)) (hf : env.frame = some L) (hke : env.scope.kind = .function) : Below A base (env :: outer) s.heap :=
  have B₁ := pushX B F hf hke
  ⟨hA, B₁.stays, B₁.frames⟩
theorem own_newsnil {h₀ h : Heap} {L : Addr} : News h₀ L h [] := News.nil
/-- a def is entered, its ground the heap as it stands -/
theorem code_own (B : Below A₀ base outer h₀) (F : Fr h₀ L s.heap m) (X₀ : K.In h₀) (T : Top p loose mean mg mb h₀) (hA : A.frames = some (env :: outer)) (hf : env.frame = some L) (hke : env.scope.kind = .function)
    (ho : K.lookup f = some ⟨oc, od, .func (fnOf name qual params body scope dV kV doc pm an cdv ct), osl⟩) (hcd : codeIn K cdv qual = true) (hroom : A.depth < recursionLimit)
    (hbind : BindsTo s (fnOf name qual params body scope dV kV doc pm an cdv ct) args binds) (hloc : ∀ y ∈ binds, scope.names.lookup y.1 = some .local)
    (h : ∀ L' h₁, Fr s.heap L' h₁ (fun y => binds.reverse.lookup y) → News s.heap L' h₁ [] → Below A base (env :: outer) s.heap → K.In s.heap → Top p loose mean mg mb s.heap →
      wpAny (model prog w) (A.deeper (envOf qual scope L' f cdv)) (execs body (envOf qual scope L' f cdv)) (fun fl s' => R (.ok (.ret (match fl with | .ret v => v | _ => .none))) s')
        (fun e s' => wpAny (model prog w) (A.deeper (envOf qual scope L' f cdv)) (leaving (envOf qual scope L' f cdv) e) (fun _ s'' => R (.error e) s'') (fun e' s'' => R (.error e') s'') s')
        { s with heap := h₁, toks := s.toks + binds.length })
    (hco : scope.isCoroutine = false) (hgen : scope.isGenerator = false) (hk : scope.kind = .function) (hcell : ∀ x ∈ scope.names, x.2 ≠ .cell) : codeAny (model prog w) A (.call (.ref f) args) R s := by
  have X := X₀.keeps F.keep
  refine codeAny_call_def (fd := fnOf name qual params body scope dV kV doc pm an cdv ct) (body := body) (binds := binds) hroom (X _ _ ho) rfl (T.nolimit.keeps F.keep) (codeRec_of X hcd) rfl hbind hcell hloc (fun h₁ hns hk₁ => ?_) hco hgen hk
  exact h s.heap.objs.size h₁ ⟨hns, hk₁, Nat.le_refl _⟩ News.nil (own_below B F hA hf hke) X (T.keeps F.keep)
theorem code_ownC (B : Below A₀ base outer h₀) (F : Fr h₀ L s.heap m) (X₀ : K.In h₀) (T : Top p loose mean mg mb h₀) (hA : A.frames = some (env :: outer)) (hf : env.frame = some L) (hke : env.scope.kind = .function)
    (ho : K.lookup f = some ⟨oc, od, .func (fnOf name qual params body scope dV kV doc pm an cdv ct), osl⟩) (hcd : codeIn K cdv qual = true) (hroom : A.depth < recursionLimit)
    (hbind : BindsTo s (fnOf name qual params body scope dV kV doc pm an cdv ct) args binds) (hloc : ∀ y ∈ binds, scope.names.lookup y.1 = some .local)
    (h : ∀ L' h₁, Fr s.heap L' h₁ (fun y => binds.reverse.lookup y) → News s.heap L' h₁ [] → Below A base (env :: outer) s.heap → K.In s.heap → Top p loose mean mg mb s.heap →
      wpC (model prog w) (A.deeper (envOf qual scope L' f cdv)) (execs body (envOf qual scope L' f cdv)) (fun fl s' => R (.ok (.ret (match fl with | .ret v => v | _ => .none))) s')
        (fun e s' => wpAny (model prog w) (A.deeper (envOf qual scope L' f cdv)) (leaving (envOf qual scope L' f cdv) e) (fun _ s'' => R (.error e) s'') (fun e' s'' => R (.error e') s'') s')
        { s with heap := h₁, toks := s.toks + binds.length })
    (hco : scope.isCoroutine = false) (hgen : scope.isGenerator = false) (hk : scope.kind = .function) (hcell : ∀ x ∈ scope.names, x.2 ≠ .cell) : codeC (model prog w) A (.call (.ref f) args) R s := by
  have X := X₀.keeps F.keep
  refine codeC_call_def (fd := fnOf name qual params body scope dV kV doc pm an cdv ct) (body := body) (binds := binds) hroom (X _ _ ho) rfl (T.nolimit.keeps F.keep) (codeRec_of X hcd) rfl hbind hcell hloc (fun h₁ hns hk₁ => ?_) hco hgen hk
  exact h s.heap.objs.size h₁ ⟨hns, hk₁, Nat.le_refl _⟩ News.nil (own_below B F hA hf hke) X (T.keeps F.keep)
end
abbrev Lz : List Str := [Str.ofString "BTClibValueError", Str.ofString "BTClibTypeError", Str.ofString "bytes_from_octets",
      Str.ofString "UnsupportedOperation", Str.ofString "IOBase", Str.ofString "BufferedIOBase",
      Str.ofString "TextIOBase", Str.ofString "BytesIO", Str.ofString "StringIO", Str.ofString "parse",
      Str.ofString "parse_var_int", Str.ofString "serialize_var_int", Str.ofString "parse_var_bytes",
      Str.ofString "serialize_var_bytes", Str.ofString "obfuscate"]
theorem with_fd {K : Frag} {f : Addr} {o' : Obj} {P : Prop} (e' : K.lookup f = some o') (h : K.lookup f = some o' → P) : P := h e'
theorem fill {P Q : Prop} (h : Q ∧ P) : P := h.2
/-- what a call hands back, all else as it was -/
abbrev RetK (s : Shared) (Q : Value → Shared → Prop) (R : Tok → Value) : Prop :=
  ∀ (h' : Heap) (t : Tok) (k : Nat), (∀ b o, s.heap.get? b = some o → h'.get? b = some o) → Q (R t) { s with heap := h', toks := k }
end Mine

end
section
open PySem PySem.W PySem.Calls PyProof.Rows
namespace Mine
set_option maxRecDepth 100000
/-- the number that octets are, the first the greatest -/
def nb (l : List UInt8) : Nat := l.foldl (fun (a : Nat) (c : UInt8) => a * 256 + c.toNat) 0
def nbF (a : Nat) (l : List UInt8) : Nat := l.foldl (fun (a : Nat) (c : UInt8) => a * 256 + c.toNat) a
theorem nbF_append (a : Nat) (l r : List UInt8) : nbF a (l ++ r) = nbF (nbF a l) r := by unfold nbF; rw [List.foldl_append]
theorem nb_append (l r : List UInt8) : nb (l ++ r) = nbF (nb l) r := by unfold nb nbF; rw [List.foldl_append]
theorem nb_lt (l : List UInt8) : nb l < 256 ^ l.length := by
  have := KFB.fold_lt l 0
  rw [Nat.zero_add, Nat.one_mul] at this
  exact this
theorem nb_snoc (l : List UInt8) (c : UInt8) : nb (l ++ [c]) = nb l * 256 + c.toNat := by rw [nb_append]; rfl
theorem xor_step (X Y c e : Nat) (hc : c < 256) (he : e < 256) : (X * 256 + c) ^^^ (Y * 256 + e) = (X ^^^ Y) * 256 + (c ^^^ e) := by
  have hce : c ^^^ e < 256 := Nat.xor_lt_two_pow (n := 8) hc he
  have e8 : ∀ Z, Z * 256 = Z <<< 8 := fun Z => by rw [Nat.shiftLeft_eq]
  refine Nat.eq_of_testBit_eq fun i => ?_
  have tb : ∀ (Z z : Nat), z < 256 → (Z * 256 + z).testBit i = if i < 8 then z.testBit i else Z.testBit (i - 8) := by
    intro Z z hz
    rw [Nat.mul_comm, show (256 : Nat) = 2 ^ 8 from rfl, Nat.testBit_two_pow_mul_add _ (by exact hz)]
  rw [Nat.testBit_xor, tb X c hc, tb Y e he, tb (X ^^^ Y) (c ^^^ e) hce]
  split
  · rw [Nat.testBit_xor]
  · rw [Nat.testBit_xor]
def xorL (d p : List UInt8) : List UInt8 := List.zipWith (fun a b => a ^^^ b) d p
theorem xorL_length (d p : List UInt8) (h : d.length = p.length) : (xorL d p).length = d.length := by simp [xorL, h]
theorem nbF_xor : ∀ (d p : List UInt8) (X Y : Nat), d.length = p.length → nbF X d ^^^ nbF Y p = nbF (X ^^^ Y) (xorL d p)
  | [], [], _, _, _ => rfl
  | [], _ :: _, _, _, h => by simp at h
  | _ :: _, [], _, _, h => by simp at h
  | c :: d, e :: p, X, Y, h => by
    have ih := nbF_xor d p (X * 256 + c.toNat) (Y * 256 + e.toNat) (by simpa using h)
    have hx := xor_step X Y c.toNat e.toNat c.toNat_lt e.toNat_lt
    rw [hx] at ih
    show nbF (X * 256 + c.toNat) d ^^^ nbF (Y * 256 + e.toNat) p = nbF ((X ^^^ Y) * 256 + (c ^^^ e).toNat) (xorL d p)
    rw [ih, UInt8.toNat_xor]
theorem nb_xor {d p : List UInt8} (h : d.length = p.length) : nb d ^^^ nb p = nb (xorL d p) := by
  have := nbF_xor d p 0 0 h
  rw [Nat.xor_zero] at this
  exact this
theorem xor_and (n : Nat) : ∀ a b : Nat, a + b ≤ n → a + b = (a ^^^ b) + 2 * (a &&& b) := by
  induction n with
  | zero =>
    intro a b h
    have h1 : a = 0 := by omega
    have h2 : b = 0 := by omega
    subst h1 h2
    rfl
  | succ n ih =>
    intro a b h
    by_cases h0 : a = 0 ∧ b = 0
    · obtain ⟨rfl, rfl⟩ := h0
      rfl
    have i := ih (a / 2) (b / 2) (by omega)
    have x1 := Nat.xor_div_two (a := a) (b := b)
    have a1 := Nat.and_div_two (a := a) (b := b)
    have x2 := Nat.xor_mod_two_eq_one (a := a) (b := b)
    have a2 := Nat.and_mod_two_eq_one (a := a) (b := b)
    rcases Nat.mod_two_eq_zero_or_one a with p | p <;> rcases Nat.mod_two_eq_zero_or_one b with q | q <;> rcases Nat.mod_two_eq_zero_or_one (a ^^^ b) with p' | p' <;> rcases Nat.mod_two_eq_zero_or_one (a &&& b) with q' | q' <;> simp only [p, q, p', q'] at x2 a2 <;> first | omega | (exfalso; simp at x2 a2; done)
theorem bitXor_nat (a b : Nat) : Builtin.bitXor (a : Int) (b : Int) = ((a ^^^ b : Nat) : Int) := by
  rw [bitXor_and, bitAnd_pp (by omega) (by omega), Int.toNat_natCast, Int.toNat_natCast]
  have := xor_and _ a b (Nat.le_refl _)
  omega
/-- the digits of a number, the least first -/
theorem little_nb : ∀ (n : Nat) (l : List UInt8), l.length = n → (KTBy.little l.length ((nb l : Nat) : Int)) = (l.map fun c => ((c.toNat : Nat) : Int)).reverse := by
  intro n
  induction n with
  | zero =>
    intro l h
    rw [List.length_eq_zero_iff.mp h]
    rfl
  | succ n ihn =>
    intro l h
    rcases List.eq_nil_or_concat l with rfl | ⟨l, c, rfl⟩
    · simp at h
    rw [List.concat_eq_append] at h ⊢
    have ih := ihn l (by simpa using h)
    rw [List.length_append, List.length_singleton, nb_snoc]
    show ((((nb l * 256 + c.toNat : Nat)) : Int) % 256) :: KTBy.little l.length (((nb l * 256 + c.toNat : Nat) : Int) / 256) = _
    have hc := c.toNat_lt
    have h1 : (((nb l * 256 + c.toNat : Nat)) : Int) % 256 = (c.toNat : Int) := by omega
    have h2 : (((nb l * 256 + c.toNat : Nat)) : Int) / 256 = ((nb l : Nat) : Int) := by omega
    rw [h1, h2, ih, List.map_append, List.reverse_append]
    rfl

section
variable {prog : Program} {w : World} {M : Model} {A : Around} {E : Value → Shared → Prop} {s : Shared} {h₀ : Heap} {L : Addr} {m : Str → Option Value} {news : List (Addr × Obj)}
theorem grown_big {n : Nat} {Q : Value → Shared → Prop} (hn : n < 2 ^ 8000) (h : Q (.int (n : Int) s.toks) { s with toks := s.toks + 1 }) : wpAny M A (mkIntGrown (n : Int)) Q E s := by
  unfold mkIntGrown
  have hl : ¬ ((n : Int).natAbs.log2 ≥ bitsLine) := by
    rw [Int.natAbs_natCast]
    have hb : bitsLine = 134217728 := by first | rfl | decide
    by_cases hz : n = 0
    · subst hz
      rw [hb]
      decide
    · have h1 := (Nat.log2_lt hz).mpr hn
      omega
  rw [if_neg hl]
  exact wpAny_mkInt h
theorem nb_small {l : List UInt8} (hl : l.length ≤ 1000) : nb l < 2 ^ 8000 := by
  refine Nat.lt_of_lt_of_le (nb_lt l) ?_
  rw [show (256 : Nat) = 2 ^ 8 from rfl, ← Nat.pow_mul]
  exact Nat.pow_le_pow_right (by decide) (by omega)
theorem fb_big {b : Array UInt8} {t u : Tok} {P : PySem.Fin → Shared → Prop} (hl : b.size ≤ 1000) (h : P (.done (.ret (.int ((nb b.toList : Nat) : Int) s.toks))) { s with toks := s.toks + 1 }) :
    wpAny M A (Builtin.«int.from_bytes» ⟨[.type "int", .bytes b t, .str (Str.ofString "big") u], []⟩) P E s := by
  unfold Builtin.«int.from_bytes»
  refine wpAny_bind (wpAny_of_eq (a := true) KFB.type_int ?_)
  refine wpAny_ite_false rfl ?_
  refine wpAny_bind (wpAny_of_eq (a := true) F.conv_sub_int ?_)
  refine wpAny_ite_false rfl ?_
  refine wpAny_bind (wpAny_of_eq (a := [some (.bytes b t), some (.str (Str.ofString "big") u), none]) (by kernel_rfl) ?_)
  refine wpAny_bind (wpAny_of_eq (a := Str.ofString "big") (by kernel_rfl) ?_)
  refine wpAny_bind (wpAny_of_eq (a := false) rfl ?_)
  refine wpAny_bind (wpAny_of_eq (a := false) (by kernel_rfl) ?_)
  refine wpAny_bind (wpAny_of_eq (a := b) rfl ?_)
  show wpAny _ _ (mkIntGrown (b.toList.foldl (fun (acc : Int) (b : UInt8) => acc * 256 + (b.toNat : Int)) ((0 : Nat) : Int)) >>= fun v => _) _ _ _
  rw [KFB.foldI_eq]
  refine wpAny_bind (grown_big (nb_small (l := b.toList) (by simpa using hl)) ?_)
  refine wpAny_ite_true (by decide +kernel) ?_
  exact wpAny_bind (wpAny_pure (wpAny_pure h))
abbrev kwLittle (u : Tok) : List (Str × Value) := [(Str.ofString "byteorder", .str (Str.ofString "little") u), (Str.ofString "signed", .bool false)]
theorem fb_little {b : Array UInt8} {t u : Tok} {P : PySem.Fin → Shared → Prop} (hl : b.size ≤ 1000) (h : P (.done (.ret (.int ((nb b.toList.reverse : Nat) : Int) s.toks))) { s with toks := s.toks + 1 }) :
    wpAny M A (Builtin.«int.from_bytes» ⟨[.type "int", .bytes b t], kwLittle u⟩) P E s := by
  unfold Builtin.«int.from_bytes»
  refine wpAny_bind (wpAny_of_eq (a := true) KFB.type_int ?_)
  refine wpAny_ite_false rfl ?_
  refine wpAny_bind (wpAny_of_eq (a := true) F.conv_sub_int ?_)
  refine wpAny_ite_false rfl ?_
  refine wpAny_bind (wpAny_of_eq (a := [some (.bytes b t), some (.str (Str.ofString "little") u), some (.bool false)]) (by kernel_rfl) ?_)
  refine wpAny_bind (wpAny_of_eq (a := Str.ofString "little") (by kernel_rfl) ?_)
  refine wpAny_bind (wpAny_of_eq (a := false) rfl ?_)
  refine wpAny_bind (wpAny_of_eq (a := true) (by kernel_rfl) ?_)
  refine wpAny_bind (wpAny_of_eq (a := b) rfl ?_)
  show wpAny _ _ (mkIntGrown (b.toList.reverse.foldl (fun (acc : Int) (b : UInt8) => acc * 256 + (b.toNat : Int)) ((0 : Nat) : Int)) >>= fun v => _) _ _ _
  rw [KFB.foldI_eq]
  refine wpAny_bind (grown_big (nb_small (l := b.toList.reverse) (by simpa using hl)) ?_)
  refine wpAny_ite_true (by decide +kernel) ?_
  exact wpAny_bind (wpAny_pure (wpAny_pure h))
/-- int.from_bytes(b, "big") -/
theorem call_fb_big {x : Addr} {b : Array UInt8} {t u : Tok} {Q : Value → Shared → Prop} (N : News h₀ L s.heap news) (hm : (x, KFB.bound) ∈ news) (hl : b.size ≤ 1000)
    (h : ∀ t' k, Q (.int ((nb b.toList : Nat) : Int) t') { s with toks := k }) : wpAny (model prog w) A (call (.ref x) [.bytes b t, .str (Str.ofString "big") u]) Q E s :=
  KFB.call_of (KFB.at_of N hm) (fun z => fb_big hl z) (h _ _)
/-- int.from_bytes(b, byteorder="little", signed=False) -/
theorem call_fb_little {x : Addr} {b : Array UInt8} {t u : Tok} {Q : Value → Shared → Prop} (N : News h₀ L s.heap news) (hm : (x, KFB.bound) ∈ news) (hl : b.size ≤ 1000)
    (h : ∀ t' k, Q (.int ((nb b.toList.reverse : Nat) : Int) t') { s with toks := k }) : wpAny (model prog w) A (call (.ref x) [.bytes b t] (kwLittle u)) Q E s := by
  have ho := KFB.at_of N hm
  refine wpAny_call (codeAny_of_tree ?_)
  show wpAny _ A.in1 (callAny (.ref x) ⟨[.bytes b t], kwLittle u⟩) _ _ s
  simp only [callAny]
  refine wpAny_bind (wpAny_load ho ?_)
  simp only [KFB.bound, show (Value.type "builtin_function_or_method" == Value.type "method" || Value.type "builtin_function_or_method" == Value.type "builtin_function_or_method" || Value.type "builtin_function_or_method" == Value.type "method-wrapper") = true by decide, if_true]
  refine wpAny_ite_true (by decide) ?_
  refine wpAny_bind (wpAny_of_eq (a := ()) (by first | kernel_rfl | rfl) ?_)
  refine wpAny_bind (wpAny_pure (wpAny_pure ?_))
  exact ⟨KFB.quiet_fb, codeAny_builtin KFB.entry_fb (fb_little hl (h _ _))⟩
theorem bits_nb {l : List UInt8} {n : Nat} (h : l.length = n) : Builtin.Int.intBits ((nb l : Nat) : Int) ≤ 8 * n := by
  refine intBits_le_iff.mpr ?_
  rw [Int.natAbs_natCast]
  have e2 : (2 : Nat) ^ 8 = 256 := by decide
  rw [Nat.pow_mul, e2, ← h]
  exact nb_lt l
theorem low_nb {l : List UInt8} {n : Nat} (h : l.length = n) : KTBy.low ((nb l : Nat) : Int) n = l.reverse := by
  have h1 := KTBy.low_ints (x := ((nb l : Nat) : Int)) (n := n) (by omega) (by rw [KTBy.p256, ← h]; exact Int.ofNat_lt.mpr (nb_lt l))
  rw [← KTBy.little_eq] at h1
  subst h
  rw [little_nb _ l rfl, ← List.map_reverse] at h1
  exact List.map_inj_right (fun a b e => UInt8.toNat_inj.mp (Int.ofNat.inj e)) |>.mp h1
/-- x.to_bytes(n, "big") of the number that r is -/
theorem call_tb_big {r : List UInt8} {n : Nat} {t u v : Tok} {Q : Value → Shared → Prop} (hn : r.length = n) (hk : n ≤ 1000) (h : ∀ t' k', Q (.bytes r.toArray t') { s with toks := k' }) :
    wpAny (model prog w) A (call (.builtin "int.to_bytes") [.int ((nb r : Nat) : Int) t, .int (n : Int) u, .str (Str.ofString "big") v]) Q E s := by
  refine wpAny_call_entry KTBy.slot (typeIs_int s _ t) KTBy.entry ?_ (KTBy.args _ _ _)
  have hb := bits_nb hn
  show wpAny _ _ (Builtin.Int.intOfSelf (.int ((nb r : Nat) : Int) t) >>= fun y => _) _ _ s
  refine wpAny_bind (wpAny_of_eq (a := ((nb r : Nat) : Int)) rfl ?_)
  show wpAny _ _ (Builtin.Int.intBindNamed "to_bytes" ["length", "byteorder", "signed"] 0 2 [.int (n : Int) u, .str (Str.ofString "big") v] [] >>= fun l => _) _ _ s
  refine wpAny_bind (wpAny_of_eq (a := [some (.int (n : Int) u), some (.str (Str.ofString "big") v), none]) (by kernel_rfl) ?_)
  show wpAny _ _ (Builtin.Int.intIndex "int.to_bytes" (.int (n : Int) u) >>= fun n => _) _ _ s
  refine wpAny_bind (wpAny_of_eq (a := (n : Int)) rfl ?_)
  refine KTBy.if_not (by show (decide ((n : Int) < -(2 ^ 63 : Int)) || decide ((n : Int) ≥ 2 ^ 63)) = false; rw [decide_eq_false (show ¬ ((n : Int) < -(2 ^ 63 : Int)) by omega), decide_eq_false (show ¬ ((n : Int) ≥ 2 ^ 63) by omega)]; rfl) ?_
  refine wpAny_bind (wpAny_of_eq (a := Str.ofString "big") (by kernel_rfl) ?_)
  refine wpAny_bind (wpAny_of_eq (a := false) rfl ?_)
  refine wpAny_bind (wpAny_of_eq (a := false) (by kernel_rfl) ?_)
  refine wpAny_ite_false (decide_eq_false (show ¬ ((n : Int) < 0) by omega)) ?_
  refine wpAny_ite_false (decide_eq_false (show ¬ ((n : Int) > 2 ^ 63 - 1 - 33) by omega)) ?_
  refine wpAny_ite_false (decide_eq_false (show ¬ ((n : Int) > (sizeLine : Int)) by rw [sizeLine_eq]; omega)) ?_
  refine KTBy.if_not (by show (decide (((nb r : Nat) : Int) < 0) && !false) = false; rw [decide_eq_false (show ¬ ((nb r : Nat) : Int) < 0 by omega)]; rfl) ?_
  refine KTBy.if_not (by show (_ && decide ((Builtin.Int.intBits ((nb r : Nat) : Int) : Int) > 8 * (n : Int))) = false; rw [decide_eq_false (show ¬ ((Builtin.Int.intBits ((nb r : Nat) : Int) : Int) > 8 * (n : Int)) by omega), Bool.and_false]) ?_
  have e : (List.reverse (KTBy.low ((nb r : Nat) : Int) (Int.toNat (n : Int)))) = r := by rw [Int.toNat_natCast, low_nb hn, List.reverse_reverse]
  refine wpAny_bind (wpAny_mkBytes (wpAny_pure ⟨_, rfl, ?_⟩) (by show (List.reverse (KTBy.low ((nb r : Nat) : Int) (Int.toNat (n : Int)))).length ≤ sizeLine; rw [e, sizeLine_eq]; omega))
  show Q (.bytes (List.reverse (KTBy.low ((nb r : Nat) : Int) (Int.toNat (n : Int)))).toArray _) _
  rw [e]
  exact h _ _
/-- x.to_bytes(n, byteorder="little", signed=False) of the number that r is, the least first -/
theorem call_tb_little {r : List UInt8} {n : Nat} {t u v : Tok} {Q : Value → Shared → Prop} (hn : r.length = n) (hk : n ≤ 1000) (h : ∀ t' k', Q (.bytes r.reverse.toArray t') { s with toks := k' }) :
    wpAny (model prog w) A (call (.builtin "int.to_bytes") [.int ((nb r : Nat) : Int) t, .int (n : Int) u] (kwLittle v)) Q E s := by
  refine wpAny_call_entry_kw KTBy.slot (typeIs_int s _ t) KTBy.entry ?_ (by unfold argsOk; kernel_rfl)
  have hb := bits_nb hn
  show wpAny _ _ (Builtin.Int.intOfSelf (.int ((nb r : Nat) : Int) t) >>= fun y => _) _ _ s
  refine wpAny_bind (wpAny_of_eq (a := ((nb r : Nat) : Int)) rfl ?_)
  show wpAny _ _ (Builtin.Int.intBindNamed "to_bytes" ["length", "byteorder", "signed"] 0 2 [.int (n : Int) u] (kwLittle v) >>= fun l => _) _ _ s
  refine wpAny_bind (wpAny_of_eq (a := [some (.int (n : Int) u), some (.str (Str.ofString "little") v), some (.bool false)]) (by kernel_rfl) ?_)
  show wpAny _ _ (Builtin.Int.intIndex "int.to_bytes" (.int (n : Int) u) >>= fun n => _) _ _ s
  refine wpAny_bind (wpAny_of_eq (a := (n : Int)) rfl ?_)
  refine KTBy.if_not (by show (decide ((n : Int) < -(2 ^ 63 : Int)) || decide ((n : Int) ≥ 2 ^ 63)) = false; rw [decide_eq_false (show ¬ ((n : Int) < -(2 ^ 63 : Int)) by omega), decide_eq_false (show ¬ ((n : Int) ≥ 2 ^ 63) by omega)]; rfl) ?_
  refine wpAny_bind (wpAny_of_eq (a := Str.ofString "little") (by kernel_rfl) ?_)
  refine wpAny_bind (wpAny_of_eq (a := false) rfl ?_)
  refine wpAny_bind (wpAny_of_eq (a := true) (by kernel_rfl) ?_)
  refine wpAny_ite_false (decide_eq_false (show ¬ ((n : Int) < 0) by omega)) ?_
  refine wpAny_ite_false (decide_eq_false (show ¬ ((n : Int) > 2 ^ 63 - 1 - 33) by omega)) ?_
  refine wpAny_ite_false (decide_eq_false (show ¬ ((n : Int) > (sizeLine : Int)) by rw [sizeLine_eq]; omega)) ?_
  refine KTBy.if_not (by show (decide (((nb r : Nat) : Int) < 0) && !false) = false; rw [decide_eq_false (show ¬ ((nb r : Nat) : Int) < 0 by omega)]; rfl) ?_
  refine KTBy.if_not (by show (_ && decide ((Builtin.Int.intBits ((nb r : Nat) : Int) : Int) > 8 * (n : Int))) = false; rw [decide_eq_false (show ¬ ((Builtin.Int.intBits ((nb r : Nat) : Int) : Int) > 8 * (n : Int)) by omega), Bool.and_false]) ?_
  have e : (KTBy.low ((nb r : Nat) : Int) (Int.toNat (n : Int))) = r.reverse := by rw [Int.toNat_natCast, low_nb hn]
  refine wpAny_bind (wpAny_mkBytes (wpAny_pure ⟨_, rfl, ?_⟩) (by show (KTBy.low ((nb r : Nat) : Int) (Int.toNat (n : Int))).length ≤ sizeLine; rw [e, List.length_reverse, sizeLine_eq]; omega))
  show Q (.bytes (KTBy.low ((nb r : Nat) : Int) (Int.toNat (n : Int))).toArray _) _
  rw [e]
  exact h _ _
/-- the numbers of two strings of octets, xored -/
theorem xor_nb {d p : List UInt8} {t u : Tok} {Q : Value → Shared → Prop} (hl : d.length = p.length) (h : ∀ t' k, Q (.int ((nb (xorL d p) : Nat) : Int) t') { s with toks := k }) :
    wpAny (model prog w) A (binaryOp .BitXor (.int ((nb d : Nat) : Int) t) (.int ((nb p : Nat) : Int) u)) Q E s := by
  refine xor_int ?_
  rw [bitXor_nat, nb_xor hl]
  exact h _ _
end
end Mine

end
section
open PySem PySem.W PySem.Calls PyProof.Rows
namespace Mine
set_option maxRecDepth 100000
/-- the key's octets, from a place on, so many -/
def padL (ks : List UInt8) (o n : Nat) : List UInt8 := (List.range n).map fun i => ks.getD ((o + i) % 8) 0
def maskB (d k : Array UInt8) (o : Nat) : Array UInt8 := (xorL d.toList (padL k.toList o d.size)).toArray
theorem padL_length (ks : List UInt8) (o n : Nat) : (padL ks o n).length = n := by simp [padL]
theorem maskB_size (d k : Array UInt8) (o : Nat) : (maskB d k o).size = d.size := by simp [maskB, xorL, padL]
theorem rep_get {r : List UInt8} (h : r.length = 8) : ∀ (q i : Nat), i < 8 * q → ((List.replicate q r).flatten)[i]? = r[i % 8]?
  | 0, i, hi => by omega
  | q + 1, i, hi => by
    rw [List.replicate_succ, List.flatten_cons]
    by_cases h8 : i < 8
    · rw [List.getElem?_append_left (by omega), Nat.mod_eq_of_lt h8]
    · rw [List.getElem?_append_right (by omega), h, rep_get h q (i - 8) (by omega)]
      congr 1
      omega
theorem rot_get {ks : List UInt8} {sh : Nat} (h : ks.length = 8) (hs : sh < 8) (j : Nat) (hj : j < 8) : (ks.drop sh ++ ks.take sh)[j]? = ks[(sh + j) % 8]? := by
  by_cases h1 : j < 8 - sh
  · rw [List.getElem?_append_left (by rw [List.length_drop]; omega), List.getElem?_drop, Nat.mod_eq_of_lt (by omega)]
  · rw [List.getElem?_append_right (by rw [List.length_drop]; omega), List.length_drop, List.getElem?_take, if_pos (by omega)]
    congr 1
    omega
theorem pad_eq {ks : List UInt8} {o q n : Nat} (h : ks.length = 8) (hn : n ≤ 8 * q) : ((List.replicate q (ks.drop (o % 8) ++ ks.take (o % 8))).flatten).take n = padL ks o n := by
  have hr : (ks.drop (o % 8) ++ ks.take (o % 8)).length = 8 := by rw [List.length_append, List.length_drop, List.length_take]; omega
  refine List.ext_getElem? fun i => ?_
  rw [List.getElem?_take]
  by_cases hi : i < n
  · rw [if_pos hi, rep_get hr q i (by omega), rot_get h (by omega) _ (by omega)]
    unfold padL
    rw [List.getElem?_map, List.getElem?_range hi]
    have e : (o % 8 + i % 8) % 8 = (o + i) % 8 := by omega
    have hlt : (o + i) % 8 < ks.length := by omega
    rw [e, Option.map_some, List.getD_eq_getElem?_getD, List.getElem?_eq_getElem hlt]
    rfl
  · rw [if_neg hi, List.getElem?_eq_none (by rw [padL_length]; omega)]
section
variable {prog : Program} {w : World} {A : Around} {E : Value → Shared → Prop} {s : Shared} {h₀ : Heap} {L : Addr} {m : Str → Option Value} {news : List (Addr × Obj)}
/-- a cut of bytes -/
theorem slice_B {value slice : PySem.Expr} {b : Array UInt8} {t : Tok} {l u : Value} {lo hi : Option Int} {Q : Value → Shared → Prop} (hF : Fr h₀ L s.heap m) (hN : News h₀ L s.heap news) (hl : IsPart l lo) (hu : IsPart u hi) (hz : b.size ≤ 16777216)
    (h : ∀ h' t' k (c : Array UInt8), Fr h₀ L h' m → News h₀ L h' news → c.toList = (b.toList.drop (lo.elim 0 (clipAt b.size))).take (hi.elim b.size (clipAt b.size) - lo.elim 0 (clipAt b.size)) → c.size = min (hi.elim b.size (clipAt b.size) - lo.elim 0 (clipAt b.size)) (b.size - lo.elim 0 (clipAt b.size)) → Q (.bytes c t') { s with heap := h', toks := k })
    (hs : subscripted slice false (.bytes b t) (.ref s.heap.objs.size) = operate [.ref s.heap.objs.size, .bytes b t] (getItem (.bytes b t) (.ref s.heap.objs.size)) := by with_unfolding_all rfl)
    (ht : ∀ r, letTemporaryGo value (.bytes b t) r = pure () := by intro _; with_unfolding_all rfl) :
    wpAny (model prog w) A (subscriptTail value slice (.bytes b t) (.ref s.heap.objs.size)) Q E { s with heap := s.heap.push { cls := .type "slice", data := .fields #[l, u, .none] } } := by
  refine KBc.slice_K hF hN (ks := KBw.bInts b) rfl hl hu (by rw [KBw.ints_length]; exact hz) (fun h' t' k F' N' _ => h h' t' k _ F' N' ?_ ?_) hs ht
  · rw [KBc.picked_eq]
  · rw [KBc.picked_eq, List.size_toArray, List.length_take, List.length_drop, Array.length_toList]
theorem mul_B {b : Array UInt8} {n : Int} {t u : Tok} {Q : Value → Shared → Prop} (hb : b.size = 8) (hlo : 0 ≤ n) (hn : n ≤ 1000)
    (h : ∀ t' k (c : Array UInt8), c.toList = (List.replicate n.toNat b.toList).flatten → c.size = 8 * n.toNat → Q (.bytes c t') { s with toks := k }) :
    wpAny (model prog w) A (binaryOp .Mult (.bytes b t) (.int n u)) Q E s := by
  have e : b = b.toList.toArray := by rw [Array.toArray_toList]
  rw [e]
  refine bytes_mul_any (b := b.toList) (fun z => ?_) (by omega) (by omega) (by rw [Array.length_toList]; omega) fun t' k => h t' k _ (by simp) (by simp [hb]; omega)
  have : b.toList.length = 0 := by rw [z]; rfl
  rw [Array.length_toList] at this
  omega
theorem add_B {b c : Array UInt8} {t u : Tok} {Q : Value → Shared → Prop} (hsz : b.size + c.size ≤ 16777216) (h : ∀ t' k (r : Array UInt8), r.toList = b.toList ++ c.toList → r.size = b.size + c.size → Q (.bytes r t') { s with toks := k }) :
    wpAny (model prog w) A (binaryOp .Add (.bytes b t) (.bytes c u)) Q E s :=
  KBy.add_bytes hsz fun t' k => h t' k _ (by simp) (by simp)
theorem len_B {b : Array UInt8} {t : Tok} {Q : Value → Shared → Prop} (hn : b.size ≤ 16777216) (h : ∀ t k, Q (.int (b.size : Int) t) { s with toks := k }) : wpAny (model prog w) A (call (.builtin "len") [.bytes b t]) Q E s :=
  len_bytes (by omega) (h _ _)
end
theorem arr_ext {a b : Array UInt8} (h : a.toList = b.toList) : a = b := by
  rw [← Array.toArray_toList (xs := a), h, Array.toArray_toList]
/-- what obfuscate reckons is the mask -/
theorem obf_math {d k c1 c2 r p q : Array UInt8} {o : Int} {n : Int} (hk : (k.size : Int) = 8) (ho : 0 ≤ o) (h1 : c1.toList = (k.toList.drop (clipAt k.size (o.fmod 8))).take (k.size - clipAt k.size (o.fmod 8)))
    (h2 : c2.toList = k.toList.take (clipAt k.size (o.fmod 8))) (hr : r.toList = c1.toList ++ c2.toList) (hn : n = ((d.size : Int).fdiv 8) + 1)
    (hp : p.toList = (List.replicate n.toNat r.toList).flatten) (hq : q.toList = p.toList.take (clipAt p.size (d.size : Int))) :
    q.toList = padL k.toList o.toNat d.size := by
  have e8 : o.fmod 8 = ((o.toNat % 8 : Nat) : Int) := by rw [Int.fmod_eq_emod_of_nonneg _ (by decide)]; omega
  have hk' : k.toList.length = 8 := by rw [Array.length_toList]; omega
  have ec : clipAt k.size (o.fmod 8) = o.toNat % 8 := by rw [e8, clipAt_nat]; omega
  rw [ec] at h1 h2
  have hrl : r.toList = k.toList.drop (o.toNat % 8) ++ k.toList.take (o.toNat % 8) := by
    rw [hr, h1, h2, List.take_of_length_le (by rw [List.length_drop]; omega)]
  have hnn : n.toNat = d.size / 8 + 1 := by
    rw [Int.fdiv_eq_ediv_of_nonneg _ (by decide)] at hn
    omega
  have hps : p.size = 8 * n.toNat := by
    rw [← Array.length_toList, hp, List.length_flatten, List.map_replicate, List.sum_replicate_nat, hrl, List.length_append, List.length_drop, List.length_take, Nat.mul_comm]
    congr 1
    omega
  rw [hq, hp, hrl, clipAt_nat, Nat.min_eq_left (by rw [hps, hnn]; omega)]
  exact pad_eq hk' (by rw [hnn]; omega)
section
variable {prog : Program} {w : World} {A : Around} {E : Value → Shared → Prop} {s : Shared}
/-- obfuscate's last call, behind what it reckoned -/
theorem tb_obf {d k c1 c2 r p q : Array UInt8} {o : Int} {n : Int} {t u v : Tok} {Q : Value → Shared → Prop} (hk : (k.size : Int) = 8) (hdz : d.size ≤ 14) (ho : 0 ≤ o)
    (hq : q.toList = p.toList.take (clipAt p.size (d.size : Int))) (hp : p.toList = (List.replicate n.toNat r.toList).flatten) (hr : r.toList = c1.toList ++ c2.toList)
    (h1 : c1.toList = (k.toList.drop (clipAt k.size (o.fmod 8))).take (k.size - clipAt k.size (o.fmod 8))) (h2 : c2.toList = k.toList.take (clipAt k.size (o.fmod 8))) (hn : n = ((d.size : Int).fdiv 8) + 1)
    (h : ∀ t' k', Q (.bytes (maskB d k o.toNat) t') { s with toks := k' }) :
    wpAny (model prog w) A (call (.builtin "int.to_bytes") [.int (Builtin.bitXor ((nb d.toList : Nat) : Int) ((nb q.toList : Nat) : Int)) t, .int (d.size : Int) u, .str (Str.ofString "big") v]) Q E s := by
  have e := obf_math hk ho h1 h2 hr hn hp hq
  have hl : d.toList.length = q.toList.length := by rw [e, padL_length, Array.length_toList]
  rw [bitXor_nat, nb_xor hl, e]
  exact call_tb_big (by rw [xorL_length _ _ (by rw [padL_length, Array.length_toList]), Array.length_toList]) (by omega) h
end
end Mine

end
section
open PySem PySem.W PySem.Calls PyProof.Rows
namespace Mine
set_option maxRecDepth 100000
section
variable {P Q : Prop}
theorem iteTT (h : P) : if true = true then P else Q := by rw [if_pos rfl]; exact h
theorem iteFT (h : Q) : if false = true then P else Q := by rw [if_neg Bool.false_ne_true]; exact h
theorem iteNeS {α : Type} [BEq α] [LawfulBEq α] {a : α} (h : Q) : if (a != a) = true then P else Q := by rw [if_neg (by simp)]; exact h
theorem iteEqS {α : Type} [BEq α] [LawfulBEq α] {a : α} (h : P) : if (a == a) = true then P else Q := by rw [if_pos (by simp)]; exact h
theorem iteBT {b : Bool} (hb : b = true) (h : P) : if b = true then P else Q := by rw [if_pos hb]; exact h
theorem iteBF {b : Bool} (hb : b = false) (h : Q) : if b = true then P else Q := by rw [if_neg (by rw [hb]; exact Bool.false_ne_true)]; exact h
end
section
variable {M : Model} {A : Around} {E : Value → Shared → Prop} {s : Shared} {K : Frag} {h₀ : Heap} {L a : Addr} {m mg mb : Str → Option Value} {cn : Str} {cs : Scope} {ccd : Value} {cl : List (Str × Addr)} {p : Program} {loose : List Str}
  {x : Str} {pos : Pos} {v : Value} {Q : Value → Shared → Prop} {news : List (Addr × Obj)} {c : Addr} {o : Obj}
/-- names by their kind, the kind asked by evaluation -/
theorem fastL (fF : Fr h₀ L s.heap m) (fl : (cs.names.lookup x == some NameKind.local) = true) (fv : m x = some v) (fk : cs.kind = .function) (fd : (x == ("__debug__" : Str)) = false) (fh : Q v s) :
    wpAny M A (eval (.Name x pos) (envOf cn cs L a ccd)) Q E s := ld fF fv fh fk (kindOf_of_beq fl) fd
theorem fastG (fF : Fr h₀ L s.heap m) (fl : (cs.names.lookup x == some NameKind.globalImplicit) = true) (fX : K.In h₀) (fT : TopRead p loose mg mb h₀) (fe : nsIn K mainGlobals x = some (some v)) (fk : cs.kind = .function)
    (fd : (x == ("__debug__" : Str)) = false) (fh : Q v s) : wpAny M A (eval (.Name x pos) (envOf cn cs L a ccd)) Q E s := name_K fF fX fT fe fh fk (kindOf_of_beq fl) fd
theorem fastB (fF : Fr h₀ L s.heap m) (fl : (cs.names.lookup x == some NameKind.globalImplicit) = true) (fX : K.In h₀) (fT : TopRead p loose mg mb h₀) (fe : nsIn K mainGlobals x = some none) (fv : bootBuiltins x = some v)
    (fn : x ≠ "__name__") (fk : cs.kind = .function) (fd : (x == ("__debug__" : Str)) = false) (fh : Q v s) : wpAny M A (eval (.Name x pos) (envOf cn cs L a ccd)) Q E s := name_B fF fX fT fe fv fn fh fk (kindOf_of_beq fl) fd
theorem kindX {k : NameKind} (h : (cs.names.lookup x == some k) = true) : (envX cn cs L a ccd cl).kindOf x = some k := eq_of_beq h
theorem fastXL (fF : Fr h₀ L s.heap m) (fl : (cs.names.lookup x == some NameKind.local) = true) (fv : m x = some v) (fk : cs.kind = .function) (fd : (x == ("__debug__" : Str)) = false) (fh : Q v s) :
    wpAny M A (eval (.Name x pos) (envX cn cs L a ccd cl)) Q E s := nameX_L fF fv fh fk (kindX fl) fd
theorem fastXG (fF : Fr h₀ L s.heap m) (fl : (cs.names.lookup x == some NameKind.globalImplicit) = true) (fX : K.In h₀) (fT : TopRead p loose mg mb h₀) (fe : nsIn K mainGlobals x = some (some v)) (fk : cs.kind = .function)
    (fd : (x == ("__debug__" : Str)) = false) (fh : Q v s) : wpAny M A (eval (.Name x pos) (envX cn cs L a ccd cl)) Q E s := nameX_K fF fX fT fe fh fk (kindX fl) fd
theorem fastXB (fF : Fr h₀ L s.heap m) (fl : (cs.names.lookup x == some NameKind.globalImplicit) = true) (fX : K.In h₀) (fT : TopRead p loose mg mb h₀) (fe : nsIn K mainGlobals x = some none) (fv : bootBuiltins x = some v)
    (fn : x ≠ "__name__") (fk : cs.kind = .function) (fd : (x == ("__debug__" : Str)) = false) (fh : Q v s) : wpAny M A (eval (.Name x pos) (envX cn cs L a ccd cl)) Q E s := nameX_B fF fX fT fe fv fn fh fk (kindX fl) fd
theorem fastXC (fN : News h₀ L s.heap news) (fl : (cs.names.lookup x == some NameKind.cell) = true) (fc : cl.lookup x = some c) (fm : (c, o) ∈ news) (fo : o.data = .cell (some v)) (fk : cs.kind = .function) (fd : (x == ("__debug__" : Str)) = false)
    (fh : Q v s) : wpAny M A (eval (.Name x pos) (envX cn cs L a ccd cl)) Q E s := nameX_C fN fc fm fo fh fk (kindX fl) fd
theorem fastYL (fF : Fr h₀ L s.heap m) (fl : (cs.names.lookup x == some NameKind.local) = true) (fv : m x = some v) (fk : cs.kind = .function) (fd : (x == ("__debug__" : Str)) = false) (fh : Q v s) :
    wpAny M A (eval (.Name x pos) (envOfC cn cs L a ccd)) Q E s := fastXL (cl := cellsFrom (L + 1) cs.names []) fF fl fv fk fd fh
theorem fastYG (fF : Fr h₀ L s.heap m) (fl : (cs.names.lookup x == some NameKind.globalImplicit) = true) (fX : K.In h₀) (fT : TopRead p loose mg mb h₀) (fe : nsIn K mainGlobals x = some (some v)) (fk : cs.kind = .function)
    (fd : (x == ("__debug__" : Str)) = false) (fh : Q v s) : wpAny M A (eval (.Name x pos) (envOfC cn cs L a ccd)) Q E s := fastXG (cl := cellsFrom (L + 1) cs.names []) fF fl fX fT fe fk fd fh
theorem fastYB (fF : Fr h₀ L s.heap m) (fl : (cs.names.lookup x == some NameKind.globalImplicit) = true) (fX : K.In h₀) (fT : TopRead p loose mg mb h₀) (fe : nsIn K mainGlobals x = some none) (fv : bootBuiltins x = some v)
    (fn : x ≠ "__name__") (fk : cs.kind = .function) (fd : (x == ("__debug__" : Str)) = false) (fh : Q v s) : wpAny M A (eval (.Name x pos) (envOfC cn cs L a ccd)) Q E s := fastXB (cl := cellsFrom (L + 1) cs.names []) fF fl fX fT fe fv fn fk fd fh
theorem fastYC (fN : News h₀ L s.heap news) (fl : (cs.names.lookup x == some NameKind.cell) = true) (fc : (cellsFrom (L + 1) cs.names []).lookup x = some c) (fm : (c, o) ∈ news) (fo : o.data = .cell (some v)) (fk : cs.kind = .function) (fd : (x == ("__debug__" : Str)) = false)
    (fh : Q v s) : wpAny M A (eval (.Name x pos) (envOfC cn cs L a ccd)) Q E s := fastXC (cl := cellsFrom (L + 1) cs.names []) fN fl fc fm fo fk fd fh
theorem relab_keep {env : Env} {k : NameKind} (hk : (k == NameKind.free) = false) : ∀ {names : List (Str × NameKind)} {x : Str}, names.lookup x = some k →
    (names.map fun (n, k) => if (k == NameKind.free && env.scope.kind == .function && env.kindOf n == some .cell) then (n, NameKind.cell) else (n, k)).lookup x = some k
  | [], _, h => by simp at h
  | (n, j) :: r, x, h => by
    have ih := @relab_keep env k hk r x
    cases hx : x == n with
    | true =>
      simp only [List.lookup_cons, hx] at h
      cases h
      have hc : ¬ (k == NameKind.free && env.scope.kind == .function && env.kindOf n == some .cell) = true := by rw [hk]; simp
      simp only [List.map_cons, if_neg hc, List.lookup_cons, hx]
    | false =>
      simp only [List.lookup_cons, hx] at h
      by_cases hc : (j == NameKind.free && env.scope.kind == .function && env.kindOf n == some .cell) = true
      · simp only [List.map_cons, if_pos hc, List.lookup_cons, hx]; exact ih h
      · simp only [List.map_cons, if_neg hc, List.lookup_cons, hx]; exact ih h
theorem relab_cell {env : Env} (hs : (env.scope.kind == .function) = true) {x : Str} (he : (env.kindOf x == some .cell) = true) : ∀ {names : List (Str × NameKind)}, names.lookup x = some .free →
    (names.map fun (n, k) => if (k == NameKind.free && env.scope.kind == .function && env.kindOf n == some .cell) then (n, NameKind.cell) else (n, k)).lookup x = some .cell
  | [], h => by simp at h
  | (n, j) :: r, h => by
    have ih := @relab_cell env hs x he r
    cases hx : x == n with
    | true =>
      simp only [List.lookup_cons, hx] at h
      cases h
      cases eq_of_beq hx
      have hc : (NameKind.free == NameKind.free && env.scope.kind == .function && env.kindOf x == some .cell) = true := by rw [hs, he]; rfl
      simp only [List.map_cons, if_pos hc, List.lookup_cons, hx]
    | false =>
      simp only [List.lookup_cons, hx] at h
      by_cases hc : (j == NameKind.free && env.scope.kind == .function && env.kindOf n == some .cell) = true
      · simp only [List.map_cons, if_pos hc, List.lookup_cons, hx]; exact ih h
      · simp only [List.map_cons, if_neg hc, List.lookup_cons, hx]; exact ih h
theorem kindC {C : Addr} {env : Env} {k : NameKind} (h : (cs.names.lookup x == some k) = true) (hk : (k == NameKind.free) = false) : (compEnvC cs cl C env).kindOf x = some k := relab_keep hk (eq_of_beq h)
theorem fastCL {C : Addr} {oC : Obj} {m₂ : Str → Option Value} {env : Env} (fN : News h₀ L s.heap news) (fl : (cs.names.lookup x == some NameKind.local) = true) (fm : (C, oC) ∈ news) (fo : LCg.NsObj oC m₂) (fv : m₂ x = some v)
    (fk : cs.kind = .function) (fd : (x == ("__debug__" : Str)) = false) (fh : Q v s) : wpAny M A (eval (.Name x pos) (compEnvC cs cl C env)) Q E s := LCgL.ld_own fN fm fo fv fh fk (kindC fl (by decide)) fd
theorem fastCF {C : Addr} {cs₂ : Scope} {L₂ : Addr} {cl₂ : List (Str × Addr)} (fN : News h₀ L s.heap news) (fl : (cs.names.lookup x == some NameKind.free) = true) (fe : (cs₂.names.lookup x == some NameKind.cell) = true) (fs : (cs₂.kind == .function) = true) (fc : cl.lookup x = some c) (fm : (c, o) ∈ news) (fo : o.data = .cell (some v))
    (fk : cs.kind = .function) (fd : (x == ("__debug__" : Str)) = false) (fh : Q v s) : wpAny M A (eval (.Name x pos) (compEnvC cs cl C (envX cn cs₂ L₂ a ccd cl₂))) Q E s := lcf_cell fN fc fm fo fh fk (relab_cell (env := envX cn cs₂ L₂ a ccd cl₂) fs fe (eq_of_beq fl)) fd
theorem fastCY {C : Addr} {cs₂ : Scope} {L₂ : Addr} (fN : News h₀ L s.heap news) (fl : (cs.names.lookup x == some NameKind.free) = true) (fe : (cs₂.names.lookup x == some NameKind.cell) = true) (fs : (cs₂.kind == .function) = true) (fc : cl.lookup x = some c) (fm : (c, o) ∈ news) (fo : o.data = .cell (some v))
    (fk : cs.kind = .function) (fd : (x == ("__debug__" : Str)) = false) (fh : Q v s) : wpAny M A (eval (.Name x pos) (compEnvC cs cl C (envOfC cn cs₂ L₂ a ccd))) Q E s := lcf_cell fN fc fm fo fh fk (relab_cell (env := envOfC cn cs₂ L₂ a ccd) fs fe (eq_of_beq fl)) fd
theorem fastCG {C : Addr} {env : Env} {mean : ExcName → Option Value} (fF : Fr h₀ L s.heap m) (fl : (cs.names.lookup x == some NameKind.globalImplicit) = true) (fX : K.In h₀) (fT : Top p loose mean mg mb h₀) (fe : nsIn K mainGlobals x = some (some v)) (fg : env.globals = mainGlobals)
    (fk : cs.kind = .function) (fd : (x == ("__debug__" : Str)) = false) (fh : Q v s) : wpAny M A (eval (.Name x pos) (compEnvC cs cl C env)) Q E s := LCgL.ld_global fF fX fT fe fh fg fk (kindC fl (by decide)) fd
theorem fastCB {C : Addr} {env : Env} {mean : ExcName → Option Value} (fF : Fr h₀ L s.heap m) (fl : (cs.names.lookup x == some NameKind.globalImplicit) = true) (fX : K.In h₀) (fT : Top p loose mean mg mb h₀) (fe : nsIn K mainGlobals x = some none) (fv : bootBuiltins x = some v)
    (fn : x ≠ "__name__") (fg : env.globals = mainGlobals) (fb : env.builtins = builtinsNs) (fk : cs.kind = .function) (fd : (x == ("__debug__" : Str)) = false) (fh : Q v s) :
    wpAny M A (eval (.Name x pos) (compEnvC cs cl C env)) Q E s := LCgL.ld_built fF fX fT fe fv fn fh fg fb fk (kindC fl (by decide)) fd
end
section
variable {prog : Program} {w : World} {A : Around} {E : Value → Shared → Prop} {s : Shared} {h₀ : Heap} {L : Addr} {m : Str → Option Value} {news : List (Addr × Obj)} {pl : Sem Bool} {Q : Value × List Value → Shared → Prop}
/-- int.from_bytes, looked up once -/
theorem int_fb (fX : (hd.heap_39 w.params).In h₀) : findCls (hd.heap_39 w.params) (.type "int") (.type "type") (PySem.Str.ofString "from_bytes") = some (.get (.builtin "classmethod_descriptor.__get__") (.builtin "int.from_bytes") .none (.type "int")) := by
  refine fill (Q := PySem.Challenge.rw_ez0013_01 = PySem.Challenge.rw_ez0013_01 ∧ hd.heap_39 = hd.heap_39) ?_
  k_fill
  refine ⟨⟨rfl, rfl⟩, ?_⟩
  k_is
theorem fast_fb (fF : Fr h₀ L s.heap m) (fN : News h₀ L s.heap news) (fX : (hd.heap_39 w.params).In h₀)
    (fh : ∀ x h', Fr h₀ L h' m → News h₀ L h' ((x, KFB.bound) :: news) → (∀ p ∈ news, p.1 < x) → Q (.ref x, []) { s with heap := h', toks := s.toks + 1 }) :
    wpAny (model prog w) A (getMethod (.type "int") (PySem.Str.ofString "from_bytes") pl) Q E s := KFB.getm fF fN fX (int_fb fX) fh
end
end Mine

end
section
open PySem PySem.W PySem.Calls PyProof.Rows
namespace Mine
set_option maxRecDepth 100000
local macro_rules | `(tactic| cell_enter) => `(tactic| (refine' code_own ?k1 ?k2 ?k3 ?k5 ?kA ?kF ?kK ?k6 ?k7 ?k8 ?k9 ?kB ?_ ?c2 ?c3 ?c4 ?c5; (case kA => exact rfl); (case kF => exact rfl); (case kK => first | exact rfl | assumption); (case k1 => k_asm); (case k2 => k_asm); (case k3 => k_asm); (case k5 => k_asm); (case k6 => k_is); (case k7 => k_is); (case k8 => ktr_room); (case k9 => first | exact BindsTo.of_eq rfl | exact binds_K (by k_in) rfl (by k_is) rfl rfl rfl); (case c5 => decide); (case kB => exact locs rfl); (case c2 => exact rfl); (case c3 => exact rfl); (case c4 => exact rfl); k_whole; intro L' h' F' N' B' X' T'; (try dsimp only); (try k_lift B'); (try k_fold)))
local macro_rules | `(tactic| walk_at "call type:bytes") => `(tactic| ((with_reducible show wpAny _ _ (call (Value.type "bytes") [Value.bytes _ _]) _ _ _); (refine bytes_of_bytes ?_)))
local macro_rules | `(tactic| k_room) => `(tactic| ktr_room)
local macro_rules | `(tactic| walk_at "call builtin:len") => `(tactic| ((with_reducible show wpAny _ _ (call (Value.builtin "len") [Value.bytes _ _]) _ _ _); (refine len_bytes_at (by assumption) (by omega) ?_); intro _ _))
local macro_rules | `(tactic| walk_at "truthy bytes") => `(tactic| ((with_reducible show wpAny _ _ (truthy (Value.bytes _ _)) _ _ _); (refine truthy_bytes_at (by assumption) (by omega) ?_); intro _))
local macro_rules | `(tactic| walk_at "subscriptTail") => `(tactic| ((with_reducible show wpAny _ _ (subscriptTail _ (Expr.Slice _ _ none _) (Value.bytes _ _) (Value.ref _)) _ _ _); (with_reducible rename Fr _ _ _ _ => F'); (with_reducible rename News _ _ _ _ => N'); (refine slice_B (s := ⟨_, _, _, _, _⟩) F' N' (by constructor) (by constructor) (by omega) ?_); intro h' t' k' c' F' N' hS' hZ'; (dsimp only [Option.elim] at hS'); (dsimp only [Option.elim] at hZ'); (try simp only [List.drop_zero, Nat.sub_zero] at hS'); (try simp only [Nat.sub_zero, clipAt_nat] at hZ'); (try k_sweep)))
local macro_rules | `(tactic| walk_at "binaryOp Mult bytes int") => `(tactic| ((with_reducible show wpAny _ _ (binaryOp Operator.Mult (Value.bytes _ _) (Value.int _ _)) _ _ _); (refine mul_B (by omega) ?n0 ?n1 ?_; (case n0 => first | omega | (simp only [Int.fdiv_eq_ediv_of_nonneg _ (by decide : (0 : Int) ≤ 8)]; omega)); (case n1 => first | omega | (simp only [Int.fdiv_eq_ediv_of_nonneg _ (by decide : (0 : Int) ≤ 8)]; omega))); intro t' k' c' hS' hZ'; (try simp only [Int.fdiv_eq_ediv_of_nonneg _ (by decide : (0 : Int) ≤ 8)] at hZ')))
local macro_rules | `(tactic| walk_at "binaryOp Add bytes bytes") => `(tactic| ((with_reducible show wpAny _ _ (binaryOp Operator.Add (Value.bytes _ _) (Value.bytes _ _)) _ _ _); (refine add_B (by omega) ?_); intro t' k' c' hS' hZ'))
local macro_rules | `(tactic| walk_at "call builtin:len") => `(tactic| ((with_reducible show wpAny _ _ (call (Value.builtin "len") [Value.bytes _ _]) _ _ _); first | ((refine len_bytes_at (by assumption) (by omega) ?_); intro _ _) | ((refine len_B (by omega) ?_); intro _ _)))
local macro_rules | `(tactic| walk_at "call ref") => `(tactic| ((with_reducible show wpAny _ _ (call (Value.ref _) [Value.bytes _ _, Value.str _ _]) _ _ _); k_dflt (refine call_fb_big (by k_asm) (by k_mem) (by omega) ?_); intro _ _))
local macro_rules | `(tactic| walk_at "call type:type") => `(tactic| ((with_reducible show wpAny _ _ (call (Value.type "type") [Value.bytes _ _]) _ _ _); refine call_type_of (Tx := "bytes") (PySem.W.typeIs_bytes _ _ _) (by decide +kernel) ?_))
local macro_rules | `(tactic| walk_at "exec Raise some none") => `(tactic| ((with_reducible show wpAny _ _ (exec (Stmt.Raise (some (Expr.Call (Expr.Name _ _) (_ :: _) [] _)) none _) _) _ _ _); k_dflt (first
  | (refine' Raise_own2 ?F ?g ?O PySem.F.excBase_Exception ?n PySem.F.excBase_ValueError ?h ?_ ?a ?b ?c ?d ?e; (case F => k_asm); (case g => exact TopRead.g (by k_asm)); (case O => exact own_of_in (by k_asm) (by k_asm) (by k_is) (by k_exc)); (case n => rfl); (case h => first | rfl | assumption); (case a => rfl); (case b => rfl); (case c => rfl); (case d => rfl); (case e => decide); k_whole)
  | (refine' Raise_own2 ?F ?g ?O PySem.F.excBase_Exception ?n PySem.F.excBase_TypeError ?h ?_ ?a ?b ?c ?d ?e; (case F => k_asm); (case g => exact TopRead.g (by k_asm)); (case O => exact own_of_in (by k_asm) (by k_asm) (by k_is) (by k_exc)); (case n => rfl); (case h => first | rfl | assumption); (case a => rfl); (case b => rfl); (case c => rfl); (case d => rfl); (case e => decide); k_whole))))
local macro_rules | `(tactic| walk_at "getMethod type:int") => `(tactic| (with_reducible (refine' fast_fb ?kfbF ?kfbN ?kfbX ?_; (case kfbF => k_asm); (case kfbN => k_asm); (case kfbX => k_asm); k_whole); intro x' h' F' N' l1; (try k_lt l1); (try k_sweep)))
local macro_rules | `(tactic| walk_at "eval Name") => `(tactic| (first
  | ((name_kind "local"); (with_reducible refine' fastL ?xF ?xl ?xv ?xk ?xd ?_); (case xl => decide +kernel); (case xF => k_asm); (case xk => first | exact rfl | assumption); (case xd => kernel_rfl); (case xv => k_dflt (exact rfl)); k_whole)
  | ((name_kind "globalImplicit"); (with_reducible refine' fastG ?xF ?xl ?xX ?xT ?xe ?xk ?xd ?_); (case xl => decide +kernel); (case xF => k_asm); (case xX => k_asm); (case xT => k_asm); (case xe => k_dflt k_is); (case xk => first | exact rfl | assumption); (case xd => kernel_rfl); k_whole)
  | ((name_kind "globalImplicit"); name_is_builtin; (with_reducible refine' fastB ?xF ?xl ?xX ?xT ?xe ?xv ?xn ?xk ?xd ?_); (case xl => kernel_rfl); (case xF => k_asm); (case xX => k_asm); (case xT => k_asm); (case xe => k_dflt k_is); (case xv => k_dflt (first | boot_fast | boot_by_name)); (case xn => decide); (case xk => first | exact rfl | assumption); (case xd => kernel_rfl); k_whole)
  | ((name_kind "local"); (with_reducible refine' fastXL ?xF ?xl ?xv ?xk ?xd ?_); (case xl => decide +kernel); (case xF => k_asm); (case xk => first | exact rfl | assumption); (case xd => kernel_rfl); (case xv => k_dflt (exact rfl)); k_whole)
  | ((name_kind "cell"); (with_reducible refine' fastXC ?xN ?xl ?xc ?xm ?xo ?xk ?xd ?_); (case xl => decide +kernel); (case xN => k_asm); (case xc => k_dflt (exact rfl)); (case xm => k_dflt k_mem); (case xo => k_dflt k_asm); (case xk => first | exact rfl | assumption); (case xd => kernel_rfl); k_whole)
  | ((name_kind "globalImplicit"); (with_reducible refine' fastXG ?xF ?xl ?xX ?xT ?xe ?xk ?xd ?_); (case xl => decide +kernel); (case xF => k_asm); (case xX => k_asm); (case xT => k_asm); (case xe => k_dflt k_is); (case xk => first | exact rfl | assumption); (case xd => kernel_rfl); k_whole)
  | ((name_kind "globalImplicit"); name_is_builtin; (with_reducible refine' fastXB ?xF ?xl ?xX ?xT ?xe ?xv ?xn ?xk ?xd ?_); (case xl => kernel_rfl); (case xF => k_asm); (case xX => k_asm); (case xT => k_asm); (case xe => k_dflt k_is); (case xv => k_dflt (first | boot_fast | boot_by_name)); (case xn => decide); (case xk => first | exact rfl | assumption); (case xd => kernel_rfl); k_whole)
  | ((name_kind "local"); (with_reducible refine' fastYL ?xF ?xl ?xv ?xk ?xd ?_); (case xl => decide +kernel); (case xF => k_asm); (case xk => first | exact rfl | assumption); (case xd => kernel_rfl); (case xv => k_dflt (exact rfl)); k_whole)
  | ((name_kind "cell"); (with_reducible refine' fastYC ?xN ?xl ?xc ?xm ?xo ?xk ?xd ?_); (case xl => decide +kernel); (case xN => k_asm); (case xc => k_dflt (exact rfl)); (case xm => k_dflt k_mem); (case xo => k_dflt k_asm); (case xk => first | exact rfl | assumption); (case xd => kernel_rfl); k_whole)
  | ((name_kind "globalImplicit"); (with_reducible refine' fastYG ?xF ?xl ?xX ?xT ?xe ?xk ?xd ?_); (case xl => decide +kernel); (case xF => k_asm); (case xX => k_asm); (case xT => k_asm); (case xe => k_dflt k_is); (case xk => first | exact rfl | assumption); (case xd => kernel_rfl); k_whole)
  | ((name_kind "globalImplicit"); name_is_builtin; (with_reducible refine' fastYB ?xF ?xl ?xX ?xT ?xe ?xv ?xn ?xk ?xd ?_); (case xl => kernel_rfl); (case xF => k_asm); (case xX => k_asm); (case xT => k_asm); (case xe => k_dflt k_is); (case xv => k_dflt (first | boot_fast | boot_by_name)); (case xn => decide); (case xk => first | exact rfl | assumption); (case xd => kernel_rfl); k_whole)
  | ((name_kind "local"); (with_reducible refine' fastCL ?xN ?xl ?xm ?xo ?xv ?xk ?xd ?_); (case xl => decide +kernel); (case xN => k_asm); (case xm => k_dflt k_mem); (case xo => assumption); (case xv => assumption); (case xk => exact rfl); (case xd => kernel_rfl); k_whole)
  | ((name_kind "free"); (with_reducible refine' fastCF ?xN ?xl ?xe ?xs ?xc ?xm ?xo ?xk ?xd ?_); (case xl => decide +kernel); (case xe => kernel_rfl); (case xs => kernel_rfl); (case xN => k_asm); (case xc => k_dflt (exact rfl)); (case xm => k_dflt k_mem); (case xo => k_dflt k_asm); (case xk => exact rfl); (case xd => kernel_rfl); k_whole)
  | ((name_kind "free"); (with_reducible refine' fastCY ?xN ?xl ?xe ?xs ?xc ?xm ?xo ?xk ?xd ?_); (case xl => decide +kernel); (case xe => kernel_rfl); (case xs => kernel_rfl); (case xN => k_asm); (case xc => k_dflt (exact rfl)); (case xm => k_dflt k_mem); (case xo => k_dflt k_asm); (case xk => exact rfl); (case xd => kernel_rfl); k_whole)
  | ((name_kind "globalImplicit"); (with_reducible refine' fastCG ?xF ?xl ?xX ?xT ?xe ?xg ?xk ?xd ?_); (case xl => decide +kernel); (case xF => k_asm); (case xX => k_asm); (case xT => k_asm); (case xe => k_dflt k_is); (case xg => k_dflt (exact rfl)); (case xk => exact rfl); (case xd => kernel_rfl); k_whole)
  | ((name_kind "globalImplicit"); name_is_builtin; (with_reducible refine' fastCB ?xF ?xl ?xX ?xT ?xe ?xv ?xn ?xg ?xb ?xk ?xd ?_); (case xl => kernel_rfl); (case xF => k_asm); (case xX => k_asm); (case xT => k_asm); (case xe => k_dflt k_is); (case xv => k_dflt (first | boot_fast | boot_by_name)); (case xn => decide); (case xg => k_dflt (exact rfl)); (case xb => k_dflt (exact rfl)); (case xk => exact rfl); (case xd => kernel_rfl); k_whole)))
section
variable {w : World} {mean : ExcName → Option Value} {mg mb : Str → Option Value} {dp un : Nat} {gd : Option (List Code)} {cn : Str} {cs : Scope} {a : Addr} {ccd : Value} {cl : List (Str × Addr)} {outer : List Env} {A₀ : Around} {base h₀ : Heap} {L : Addr} {m : Str → Option Value} {s : Shared} {Q E : Value → Shared → Prop}
set_option maxHeartbeats 1500000 in
theorem bfo1 (B : Below A₀ base outer h₀) (F : Fr h₀ L s.heap m) (X : (hd.heap_39 w.params).In h₀) (T : Top hd.view_39 Lz mean mg mb h₀) (hk : cs.kind = .function) (hdp : dp + 6 < recursionLimit) (hun : un + 60 < cLine)
    {k : Array UInt8} {tk : Tok} (hret : RetK s Q fun _ => .bytes k tk) :
    wpAny (model Challenge.pw_ez0013_01 w) (ktrTop dp un gd cn cs L a ccd cl outer) (call (.ref 66) [.bytes k tk]) Q E s := by
  refine fill (Q := PySem.Challenge.rw_ez0013_01 = PySem.Challenge.rw_ez0013_01 ∧ hd.heap_39 = hd.heap_39) ?_
  k_fill
  refine ⟨⟨rfl, rfl⟩, ?_⟩
  refine wpAny_call ?_
  k_dflt cell_enter
  k_steps
  all_goals exact hret _ 0 _ (Fr.keep (by assumption))
set_option maxHeartbeats 1500000 in
theorem bfo2 (B : Below A₀ base outer h₀) (F : Fr h₀ L s.heap m) (X : (hd.heap_39 w.params).In h₀) (T : Top hd.view_39 Lz mean mg mb h₀) (hk : cs.kind = .function) (hdp : dp + 6 < recursionLimit) (hun : un + 60 < cLine)
    {k : Array UInt8} {tk t8 : Tok} (hz : (k.size : Int) = 8) (hret : RetK s Q fun _ => .bytes k tk) :
    wpAny (model Challenge.pw_ez0013_01 w) (ktrTop dp un gd cn cs L a ccd cl outer) (call (.ref 66) [.bytes k tk, .int 8 t8]) Q E s := by
  refine wpAny_call ?_
  k_dflt cell_enter
  k_steps
  all_goals exact hret _ 0 _ (Fr.keep (by assumption))
local macro_rules | `(tactic| walk_at "call ref") => `(tactic| ((with_reducible show wpAny _ _ (call (Value.ref 66) _) _ _ _); k_dflt (first
  | (refine' bfo1 ?B ?F ?X ?T ?hk ?hd ?hu ?_)
  | (refine' bfo2 ?B ?F ?X ?T ?hk ?hd ?hu ?hz ?_; (case hz => assumption))); (case B => k_asm); (case F => k_asm); (case X => k_asm); (case T => k_asm); (case hk => first | exact rfl | assumption); (case hd => ktr_room); (case hu => ktr_units); (intro h9 t9 k9 hk9); (have F9 := Fr.keeps (by k_asm) hk9); (have N9 := News.grown (by k_asm) hk9); clear hk9; (try k_sweep)))
local macro_rules | `(tactic| walk_at "ite") => `(tactic| (k_closed; with_reducible (first | (refine' iteBT ?hIte ?_; (case hIte => decide +kernel)) | (refine' iteBF ?hIte ?_; (case hIte => decide +kernel)))))
local macro_rules | `(tactic| walk_at "ite") => `(tactic| with_reducible (first | refine iteTT ?_ | refine iteFT ?_ | refine iteNeS ?_ | refine iteEqS ?_))
set_option maxHeartbeats 1500000 in
theorem obfG (B : Below A₀ base outer h₀) (F : Fr h₀ L s.heap m) (X : (hd.heap_39 w.params).In h₀) (T : Top hd.view_39 Lz mean mg mb h₀) (hk : cs.kind = .function) (hdp : dp + 7 < recursionLimit) (hun : un + 70 < cLine)
    {vs : List Value} {d k : Array UInt8} {td tk to : Tok} {o : Int} (hz : (k.size : Int) = 8) (hdz : d.size ≤ 14) (ho : 0 ≤ o)
    (hb : ∀ fd c dd sl, (hd.heap_39 w.params).lookup 694 = some ⟨c, dd, .func fd, sl⟩ → BindsTo s fd ⟨vs, []⟩ [(Str.ofString "data", .bytes d td), (Str.ofString "key", .bytes k tk), (Str.ofString "offset", .int o to)])
    (hret : RetK s Q fun t => .bytes (maskB d k o.toNat) t) :
    wpAny (model Challenge.pw_ez0013_01 w) (ktrTop dp un gd cn cs L a ccd cl outer) (call (.ref 694) vs) Q E s := by
  refine wpAny_call ?_
  k_dflt (refine' code_own B F X T ?kA ?kF ?kK ?k6 ?k7 ?k8 ?k9 ?kB ?_ ?c2 ?c3 ?c4 ?c5; (case kA => exact rfl); (case kF => exact rfl); (case kK => exact hk); (case k6 => k_is); (case k7 => k_is); (case k8 => ktr_room); (case k9 => exact hb _ _ _ _ (by k_is)); (case c5 => decide); (case kB => exact locs rfl); (case c2 => exact rfl); (case c3 => exact rfl); (case c4 => exact rfl); k_whole; intro L' h' F' N' B' X' T'; (try dsimp only); (try k_lift B'); (try k_fold))
  clear hb
  k_steps
  refine tb_obf (k := k) (o := o) hz hdz ho (by assumption) (by assumption) (by assumption) (by assumption) (by assumption) rfl ?_
  intro t' k'
  k_steps
  all_goals exact hret _ _ _ (Fr.keep (by assumption))
set_option maxHeartbeats 1500000 in
theorem obf3 (B : Below A₀ base outer h₀) (F : Fr h₀ L s.heap m) (X : (hd.heap_39 w.params).In h₀) (T : Top hd.view_39 Lz mean mg mb h₀) (hk : cs.kind = .function) (hdp : dp + 7 < recursionLimit) (hun : un + 70 < cLine)
    {d k : Array UInt8} {td tk to : Tok} {o : Int} (hz : (k.size : Int) = 8) (hdz : d.size ≤ 14) (ho : 0 ≤ o) (hret : RetK s Q fun t => .bytes (maskB d k o.toNat) t) :
    wpAny (model Challenge.pw_ez0013_01 w) (ktrTop dp un gd cn cs L a ccd cl outer) (call (.ref 694) [.bytes d td, .bytes k tk, .int o to]) Q E s := by
  refine' obfG B F X T hk hdp hun (td := td) (tk := tk) (to := to) hz hdz ho (fun fd c dd sl e => ?_) hret
  refine' with_fd (K := hd.heap_39 w.params) (f := 694) ?e1 ?h1; (case e1 => k_is); intro e'
  obtain rfl : fd = _ := by have := Option.some.inj (e.symm.trans e'); injection this with _ _ q _; injection q
  exact binds_K (K := hd.heap_39 w.params) (X.keeps F.keep) rfl (by k_is) rfl rfl rfl
set_option maxHeartbeats 1500000 in
theorem obf2 (B : Below A₀ base outer h₀) (F : Fr h₀ L s.heap m) (X : (hd.heap_39 w.params).In h₀) (T : Top hd.view_39 Lz mean mg mb h₀) (hk : cs.kind = .function) (hdp : dp + 7 < recursionLimit) (hun : un + 70 < cLine)
    {d k : Array UInt8} {td tk : Tok} (hz : (k.size : Int) = 8) (hdz : d.size ≤ 14) (hret : RetK s Q fun t => .bytes (maskB d k 0) t) :
    wpAny (model Challenge.pw_ez0013_01 w) (ktrTop dp un gd cn cs L a ccd cl outer) (call (.ref 694) [.bytes d td, .bytes k tk]) Q E s := by
  refine' obfG B F X T hk hdp hun (td := td) (tk := tk) (to := 1022) (o := 0) hz hdz (by decide) (fun fd c dd sl e => ?g) hret
  case g =>
    refine' with_fd (K := hd.heap_39 w.params) (f := 694) ?e1 ?h1; (case e1 => k_is); intro e'
    obtain rfl : fd = _ := by have := Option.some.inj (e.symm.trans e'); injection this with _ _ q _; injection q
    exact binds_K (K := hd.heap_39 w.params) (X.keeps F.keep) rfl (by k_is) rfl rfl rfl
end
end Mine

end
section
open PySem PySem.W PySem.Calls PyProof.Rows
namespace Mine
set_option maxRecDepth 100000
set_option maxHeartbeats 4000000
section
variable {prog : Program} {w : World} {A₀ A : Around} {s : Shared} {base h₀ : Heap} {outer : List Env} {L : Addr} {m : Str → Option Value} {news : List (Addr × Obj)} {env : Env} {K : Frag} {p : Program} {loose : List Str} {mean : ExcName → Option Value} {mg mb : Str → Option Value}
  {R : Result → Shared → Prop} {name qual : Str} {params : Arguments} {body : List Stmt} {scope : Scope} {dV kV doc pm cdv ct oc : Value} {an od : Option Addr} {osl : Array (Option Value)} {f : Addr} {args : Args} {binds : List (Str × Value)}
/-- the library's code_def, over clean contexts -/
theorem code_dC (B : Below A₀ base outer h₀) (F : Fr h₀ L s.heap m) (X₀ : K.In h₀) (N : News h₀ L s.heap news) (T : Top p loose mean mg mb h₀) (hA : A.frames = some (env :: outer)) (hf : env.frame = some L) (hke : env.scope.kind = .function)
    (ho : K.lookup f = some ⟨oc, od, .func (fnOf name qual params body scope dV kV doc pm an cdv ct), osl⟩) (hcd : codeIn K cdv qual = true) (hroom : A.depth < recursionLimit)
    (hbind : BindsTo s (fnOf name qual params body scope dV kV doc pm an cdv ct) args binds) (hloc : ∀ y ∈ binds, scope.names.lookup y.1 = some .local)
    (h : ∀ g L' h₁, Fr h₀ L g m → Fr g L' h₁ (fun y => binds.reverse.lookup y) → News g L' h₁ news → Below A base (env :: outer) g → K.In g → Top p loose mean mg mb g →
      wpC (model prog w) (A.deeper (envOf qual scope L' f cdv)) (execs body (envOf qual scope L' f cdv))
        (fun fl s' => LeaveK h₀ L m g R (match fl with | .ret v => v | _ => .none) s')
        (fun e s' => wpAny (model prog w) (A.deeper (envOf qual scope L' f cdv)) (leaving (envOf qual scope L' f cdv) e) (fun _ s'' => R (.error e) s'') (fun e' s'' => R (.error e') s'') s')
        { s with heap := h₁, toks := s.toks + binds.length })
    (hco : scope.isCoroutine = false) (hgen : scope.isGenerator = false) (hk : scope.kind = .function)
    (hcell : ∀ x ∈ scope.names, x.2 ≠ .cell) : codeC (model prog w) A (.call (.ref f) args) R s := by
  obtain ⟨FG, BG, st, lv⟩ := groundX (R := R) B F N hA hf hke
  have X := X₀.keeps F.keep
  refine codeC_call_def (fd := fnOf name qual params body scope dV kV doc pm an cdv ct) (body := body) (binds := binds) hroom (X _ _ ho) rfl (T.nolimit.keeps F.keep) (codeRec_of X hcd) rfl hbind hcell hloc (fun h₁ hns hk₁ => ?_) hco hgen hk
  exact wpC_mono (h _ s.heap.objs.size h₁ FG ⟨hns, fun b o e => hk₁ b o (of_hideAll _ e), Nat.le_of_eq (hideAll_size _ _)⟩
    (fun p hp => ⟨hk₁ _ _ (N p hp).1, Nat.ne_of_lt (Heap.lt_size (N p hp).1), hideAll_none _ (List.mem_map_of_mem hp)⟩) BG (X₀.keeps st) (T.keeps st)) (fun fl s' hl => lv _ _ hl) fun _ _ y => y
/-- a class with a `__new__` and an `__init__` of its own is called -/
theorem make_C {C fI : Addr} {rest : List Value} {oc' : Value} {od' : Option Addr} {cd : ClassData} {sl : Array (Option Value)} (X : K.In s.heap) (hC : K.lookup C = some ⟨oc', od', .cls cd, sl⟩) (hmro : cd.mro.isEmpty = false)
    (hcall : specialIn K (.ref C) "__call__" = some (some (.builtin "type.__call__"))) (htyp : instIn K (.ref C) (.type "type") = some true)
    (hmade : ∀ S, peek K S (Bind.madeBy (.ref C)) = some none) (hself : mroIn K C (.ref C) = some true)
    (hi : findIn K (.ref C) "__init__" = some (some (.ref fI))) (hf : typeIn K (.ref fI) = some (.type "function"))
    (h : wpAny (model prog w) (A.under (.builtin "type.__call__" ⟨.ref C :: rest, []⟩)) (getAttr (.ref C) "__new__") (fun new s₁ => wpAny (model prog w) (A.under (.builtin "type.__call__" ⟨.ref C :: rest, []⟩)) (call new (.ref C :: rest) [])
      (fun v s₂ => ∃ x ox od, v = .ref x ∧ InstAt s₂.heap x ox C od ∧ K.In s₂.heap ∧
        codeC (model prog w) (A.under (.builtin "type.__call__" ⟨.ref C :: rest, []⟩)) (.call (.ref fI) ⟨.ref x :: rest, []⟩) (InitBack x R) s₂) (fun e s' => R (.error e) s') s₁) (fun e s' => R (.error e) s') s) :
    codeC (model prog w) A (.call (.ref C) ⟨rest, []⟩) R s := by
  have hCs := X _ _ hC
  have hcd : clsIn K C = some cd := by unfold clsIn; rw [hC]
  have call : Looks (model prog w) s.heap (specialOf (.ref C) "__call__") (some (.builtin "type.__call__")) := looks_specialIn X hcall
  have typ : Looks (model prog w) s.heap (isInstance (.ref C) (.type "type")) true := looks_instIn X htyp
  have hm : Looks (model prog w) s.heap (mroOf (.ref C)) cd.mro := (looks_clsIn X hcd).andThen .now
  have made : Looks (model prog w) s.heap (Bind.madeBy (.ref C)) none := Looks.of_peek X (hmade _)
  refine codeC_of_tree (wpC_any ?_)
  show wpAny _ _ (callAny (.ref C) _) _ _ _
  refine nd_load hCs ?_
  show wpAny _ _ (callAny.viaDunder (.ref C) _) _ _ _
  unfold callAny.viaDunder
  refine wpAny_bind (call.at ?_)
  dsimp only
  rw [tc_bind]
  refine wpAny_bind (wpAny_pure (wpAny_bind (wpAny_pure ?_)))
  refine wpAny_pure (a := Fin.again (.call (.builtin "type.__call__") ⟨.ref C :: rest, []⟩)) (And.intro rfl ?_)
  refine codeC_of_tree ?_
  show wpC _ A.in1 (do checkBuiltinCall "type.__call__" ⟨.ref C :: rest, []⟩; again (.builtin "type.__call__" ⟨.ref C :: rest, []⟩)) _ _ s
  have hq : (Code.builtin "type.__call__" ⟨.ref C :: rest, []⟩).quiet = true := Code.quiet_builtin _ (by decide +kernel)
  have hcl : isDec (Code.builtin "type.__call__" ⟨.ref C :: rest, []⟩) = false := BA.call_clean
  refine wpC_bindA (check_slot tc_kind tc_split typ (tc_args _ _ _) ?_)
  refine wpC_pure (a := Fin.again (.builtin "type.__call__" ⟨.ref C :: rest, []⟩)) (And.intro hq ?_)
  refine codeC_builtin entry_typeCall ?_ hcl
  unfold Builtin.«type.__call__»
  refine if_falseC (by rfl) ?_
  refine wpC_bindA (hm.here ?_)
  refine if_falseC hmro ?_
  refine wpC_bindA (made.here ?_)
  refine wpC_bindA (wpAny_mono h (fun new s₁ h₁ => wpC_bindA (wpAny_holding (wpAny_mono h₁ (fun v s₂ h₂ => ?_) fun _ _ y => y))) fun _ _ y => y)
  obtain ⟨x, ox, od, rfl, I, X₂, h₂⟩ := h₂
  have t1 : Looks (model prog w) s₂.heap (isInstance (.ref x) (.ref C)) true := I.type.andThen (looks_mroIn X₂ hself)
  refine wpC_bindA (t1.here ?_)
  refine if_falseC rfl ?_
  refine wpC_bind (wpC_holding ?_)
  unfold callSpecial? specialOf
  refine wpC_bindA (wpAny_bind (I.type.here ((looks_findIn X₂ hi).here ?_)))
  refine wpC_holding (wpC_bindA ((bind_fn X₂ _ hf).here (wpC_bind (wpC_call (codeC_mono h₂ fun r s' z => ?_)))))
  rcases r with e | (v | _ | _ | _) <;> first | exact z | exact z.elim | skip
  obtain ⟨rfl, z⟩ := z
  refine wpC_pure ?_
  refine if_falseC rfl ?_
  exact wpC_pure z
/-- object.__new__ of a class whose `__new__` is its own -/
theorem new_C {A : Around} {E : Value → Shared → Prop} {Q : Value → Shared → Prop} {C : Addr} {oc' : Value} {od' : Option Addr} {cd : ClassData} {sl : Array (Option Value)} (F : Fr h₀ L s.heap m) (X₀ : K.In h₀) (N : News h₀ L s.heap news) (hC : K.lookup C = some ⟨oc', od', .cls cd, sl⟩) (e1 : cd.abstract = false) (e2 : cd.hasDel = false)
    (top : mroIn K C (.type "object") = some true) (htyp : instIn K (.ref C) (.type "type") = some true) (hbase : ∀ S, peek K S (Bind.staticBase (.ref C)) = some (.type "object")) (hmd : ∀ S, peek K S (Bind.madeBy (.type "object")) = some (some "object.__new__"))
    (h : ∀ x dx h', Fr h₀ L h' m → News h₀ L h' ((x, instObj C dx) :: (dx, dictOf [] 0) :: news) → (∀ p ∈ news, p.1 < dx) → dx < x → Q (.ref x) { s with heap := h' }) :
    wpAny (model prog w) A (call (.builtin "object.__new__") [.ref C] []) Q E s := by
  have X := X₀.keeps F.keep
  have hCs := X _ _ hC
  have base : Looks (model prog w) s.heap (Bind.staticBase (.ref C)) (.type "object") := Looks.of_peek X (hbase _)
  have made : Looks (model prog w) s.heap (Bind.madeBy (.type "object")) (some "object.__new__") := Looks.of_peek X (hmd _)
  have here : Looks (model prog w) s.heap (Bind.madeHere "object.__new__" (.ref C)) () := base.andThen (made.andThen (Looks.of_pure (by simp only [Option.map_some, bne_self_eq_false, Bool.false_eq_true, if_false])))
  have top : Looks (model prog w) s.heap (isSubtype (.ref C) (.type "object")) true := looks_mroIn X top
  have typ : Looks (model prog w) s.heap (isInstance (.ref C) (.type "type")) true := looks_instIn X htyp
  obtain ⟨hh, g, d, t, os⟩ := s
  have hq := h (hh.objs.size + 1) hh.objs.size _ ((F.push emptyDict).push (instObj C hh.objs.size)) (by
    have := (N.push F emptyDict).push (F.push _) (instObj C hh.objs.size)
    rwa [Heap.size_push] at this) (fun p hp => Heap.lt_size (N p hp).1) (Nat.lt_succ_self _)
  have FN := PySem.F.objNew
  refine wpAny_call (codeAny_call_builtin_code (Code.quiet_builtin _ FN.quiet) ?_)
  simp only [checkBuiltinCall, FN.kind, FN.split, FN.row]
  have args : Bind.checkArgs "object.__new__" ⟨.hand, "object.__new__", "__new__", .cls, []⟩ ⟨[.ref C], []⟩ = pure () := by kernel_rfl
  rw [args]
  repeat (first | simp only [bne_self_eq_false, Bool.false_eq_true, if_false] | lk)
  refine codeAny_builtin FN.entry ?_
  unfold Builtin.«object.__new__»
  have fin : ∀ A', wpAny (model prog w) A' (do
      let d ← if typeHasDict (.ref C) then some <$> alloc { cls := .type "dict", data := .dict #[] } else pure none
      ret (← newObj (.ref C) .plain d)) (fun fin s' => match fin with | .done f => (fun r s' => match r with | .ok (.ret v) => Q v s' | .ok _ => False | .error e => E e s') (Except.ok f) s' | .again c' => c'.quiet = true ∧ codeAny (model prog w) A c' (fun r s' => match r with | .ok (.ret v) => Q v s' | .ok _ => False | .error e => E e s') s') (fun e s' => E e s') ⟨hh, g, d, t, os⟩ := by
    intro A'
    show wpAny _ _ ((alloc emptyDict >>= fun x => pure (some x)) >>= _) _ _ _
    refine wpAny_bind (wpAny_bind (wpAny_alloc (wpAny_pure (wpAny_bind ?_))))
    show wpAny _ _ (newObjAsIs _ _ _) _ _ _
    unfold newObjAsIs classHasDel
    refine wpAny_bind (wpAny_alloc (wpAny_bind (wpAny_bind (wpAny_load (Heap.get?_push_of_some _ (Heap.get?_push_of_some _ hCs)) (wpAny_pure ?_)))))
    rw [e2]
    refine wpAny_pure (wpAny_pure ?_)
    show Q _ _
    rw [Heap.size_push]
    exact hq
  repeat (first | simp only [e1, Bool.false_eq_true, if_false] | exact fin _ | lk)
abbrev baObj (b : Array UInt8) : Obj := { cls := .type "bytearray", data := .bytearray b }
/-- bytearray(b): one more of the news -/
theorem ba_K {A : Around} {E : Value → Shared → Prop} {Q : Value → Shared → Prop} {b : Array UInt8} {t : Tok} (F : Fr h₀ L s.heap m) (N : News h₀ L s.heap news) (hz : b.size ≤ 1000)
    (h : ∀ q h', Fr h₀ L h' m → News h₀ L h' ((q, baObj b) :: news) → (∀ p ∈ news, p.1 < q) → Q (.ref q) { s with heap := h' }) :
    wpC (model prog w) A (call (.type "bytearray") [.bytes b t]) Q E s := by
  refine call_ba (by rw [sizeLine_eq]; omega) fun h' keep hq => h _ h' (F.keeps keep) (fun p hp => ?_) fun p hp => Heap.lt_size (N p hp).1
  rcases List.mem_cons.mp hp with rfl | hp
  · refine ⟨hq, ?_, ?_⟩
    · obtain ⟨oL, _, _, hL, _⟩ := F.ns
      exact Nat.ne_of_gt (Heap.lt_size hL)
    · cases e : h₀.get? s.heap.objs.size with
      | none => rfl
      | some o => exact absurd (Heap.lt_size (F.keep _ _ e)) (Nat.lt_irrefl _)
  · exact (N.grown keep) p hp
theorem nameX {A : Around} {M : Model} {f : Value} {x : Addr} {vs : List Value} (h : ∀ y, y = x → codeC M A (.call f ⟨.ref y :: vs, []⟩) R s) : codeC M A (.call f ⟨.ref x :: vs, []⟩) R s := h x rfl
abbrev ioDict (P : Params) (q : Addr) (i : Int) (t1 t2 t3 : Tok) : Obj := dictOf [{ hash := PyData.keyHash P (Str.ofString "_BytesIO__buf"), key := .str (Str.ofString "_BytesIO__buf") t1, val := .ref q }, { hash := PyData.keyHash P (Str.ofString "_BytesIO__pos"), key := .str (Str.ofString "_BytesIO__pos") t2, val := .int i t3 }] 2
theorem io_news {h h' : Heap} {L : Addr} {a b c : Addr × Obj} {r : List (Addr × Obj)} (N : News h L h' (a :: b :: c :: r)) : News h L h' [a, b, c] := fun p hp => N p (by
  simp only [List.mem_cons, List.not_mem_nil, or_false] at hp ⊢
  rcases hp with h | h | h <;> simp [h])
theorem news_own {h h' : Heap} {La : Addr} {l : List (Addr × Obj)} (F : Fr h₀ L h m) (N : News h La h' l) : News h₀ L h' l := fun p hp => by
  obtain ⟨n1, n2, n3⟩ := N p hp
  refine ⟨n1, ?_, ?_⟩
  · rintro rfl
    obtain ⟨oL, _, _, hL, _⟩ := F.ns
    rw [hL] at n3
    cases n3
  · cases e : h₀.get? p.1 with
    | none => rfl
    | some o =>
      rw [F.keep _ _ e] at n3
      cases n3
/-- what the making of a BytesIO hands back -/
abbrev RetIO (w : World) (s : Shared) (Q : Value → Shared → Prop) (C : Addr) (b : Array UInt8) : Prop :=
  ∀ (h' : Heap) (k : Nat) (La q x dx : Addr) (t1 t2 t3 : Tok), (∀ b o, s.heap.get? b = some o → h'.get? b = some o) → News s.heap La h' [(q, baObj b), (x, instObj C dx), (dx, ioDict w.params q 0 t1 t2 t3)] → dx < x → x < q → Q (.ref x) { s with heap := h', toks := k }
end
end Mine

end
section
open PySem PySem.W PySem.Calls PyProof.Rows
namespace Mine
set_option maxRecDepth 100000
local macro_rules | `(tactic| cell_enter) => `(tactic| (refine' code_own ?k1 ?k2 ?k3 ?k5 ?kA ?kF ?kK ?k6 ?k7 ?k8 ?k9 ?kB ?_ ?c2 ?c3 ?c4 ?c5; (case kA => exact rfl); (case kF => exact rfl); (case kK => first | exact rfl | assumption); (case k1 => k_asm); (case k2 => k_asm); (case k3 => k_asm); (case k5 => k_asm); (case k6 => k_is); (case k7 => k_is); (case k8 => ktr_room); (case k9 => first | exact BindsTo.of_eq rfl | exact binds_K (by k_in) rfl (by k_is) rfl rfl rfl); (case c5 => decide); (case kB => exact locs rfl); (case c2 => exact rfl); (case c3 => exact rfl); (case c4 => exact rfl); k_whole; intro L' h' F' N' B' X' T'; (try dsimp only); (try k_lift B'); (try k_fold)))
local macro_rules | `(tactic| walk_at "call type:bytes") => `(tactic| ((with_reducible show wpAny _ _ (call (Value.type "bytes") [Value.bytes _ _]) _ _ _); (refine bytes_of_bytes ?_)))
local macro_rules | `(tactic| k_room) => `(tactic| ktr_room)
local macro_rules | `(tactic| walk_at "call builtin:len") => `(tactic| ((with_reducible show wpAny _ _ (call (Value.builtin "len") [Value.bytes _ _]) _ _ _); (refine len_bytes_at (by assumption) (by omega) ?_); intro _ _))
local macro_rules | `(tactic| walk_at "truthy bytes") => `(tactic| ((with_reducible show wpAny _ _ (truthy (Value.bytes _ _)) _ _ _); (refine truthy_bytes_at (by assumption) (by omega) ?_); intro _))
local macro_rules | `(tactic| walk_at "subscriptTail") => `(tactic| ((with_reducible show wpAny _ _ (subscriptTail _ (Expr.Slice _ _ none _) (Value.bytes _ _) (Value.ref _)) _ _ _); (with_reducible rename Fr _ _ _ _ => F'); (with_reducible rename News _ _ _ _ => N'); (refine slice_B (s := ⟨_, _, _, _, _⟩) F' N' (by constructor) (by constructor) (by omega) ?_); intro h' t' k' c' F' N' hS' hZ'; (dsimp only [Option.elim] at hS'); (dsimp only [Option.elim] at hZ'); (try simp only [List.drop_zero, Nat.sub_zero] at hS'); (try simp only [Nat.sub_zero, clipAt_nat] at hZ'); (try k_sweep)))
local macro_rules | `(tactic| walk_at "binaryOp Mult bytes int") => `(tactic| ((with_reducible show wpAny _ _ (binaryOp Operator.Mult (Value.bytes _ _) (Value.int _ _)) _ _ _); (refine mul_B (by omega) ?n0 ?n1 ?_; (case n0 => first | omega | (simp only [Int.fdiv_eq_ediv_of_nonneg _ (by decide : (0 : Int) ≤ 8)]; omega)); (case n1 => first | omega | (simp only [Int.fdiv_eq_ediv_of_nonneg _ (by decide : (0 : Int) ≤ 8)]; omega))); intro t' k' c' hS' hZ'; (try simp only [Int.fdiv_eq_ediv_of_nonneg _ (by decide : (0 : Int) ≤ 8)] at hZ')))
local macro_rules | `(tactic| walk_at "binaryOp Add bytes bytes") => `(tactic| ((with_reducible show wpAny _ _ (binaryOp Operator.Add (Value.bytes _ _) (Value.bytes _ _)) _ _ _); (refine add_B (by omega) ?_); intro t' k' c' hS' hZ'))
local macro_rules | `(tactic| walk_at "call builtin:len") => `(tactic| ((with_reducible show wpAny _ _ (call (Value.builtin "len") [Value.bytes _ _]) _ _ _); first | ((refine len_bytes_at (by assumption) (by omega) ?_); intro _ _) | ((refine len_B (by omega) ?_); intro _ _)))
local macro_rules | `(tactic| walk_at "call ref") => `(tactic| ((with_reducible show wpAny _ _ (call (Value.ref _) [Value.bytes _ _, Value.str _ _]) _ _ _); k_dflt (refine call_fb_big (by k_asm) (by k_mem) (by omega) ?_); intro _ _))
local macro_rules | `(tactic| walk_at "call type:type") => `(tactic| ((with_reducible show wpAny _ _ (call (Value.type "type") [Value.bytes _ _]) _ _ _); refine call_type_of (Tx := "bytes") (PySem.W.typeIs_bytes _ _ _) (by decide +kernel) ?_))
local macro_rules | `(tactic| walk_at "exec Raise some none") => `(tactic| ((with_reducible show wpAny _ _ (exec (Stmt.Raise (some (Expr.Call (Expr.Name _ _) (_ :: _) [] _)) none _) _) _ _ _); k_dflt (first
  | (refine' Raise_own2 ?F ?g ?O PySem.F.excBase_Exception ?n PySem.F.excBase_ValueError ?h ?_ ?a ?b ?c ?d ?e; (case F => k_asm); (case g => exact TopRead.g (by k_asm)); (case O => exact own_of_in (by k_asm) (by k_asm) (by k_is) (by k_exc)); (case n => rfl); (case h => first | rfl | assumption); (case a => rfl); (case b => rfl); (case c => rfl); (case d => rfl); (case e => decide); k_whole)
  | (refine' Raise_own2 ?F ?g ?O PySem.F.excBase_Exception ?n PySem.F.excBase_TypeError ?h ?_ ?a ?b ?c ?d ?e; (case F => k_asm); (case g => exact TopRead.g (by k_asm)); (case O => exact own_of_in (by k_asm) (by k_asm) (by k_is) (by k_exc)); (case n => rfl); (case h => first | rfl | assumption); (case a => rfl); (case b => rfl); (case c => rfl); (case d => rfl); (case e => decide); k_whole))))
local macro_rules | `(tactic| walk_at "getMethod type:int") => `(tactic| (with_reducible (refine' fast_fb ?kfbF ?kfbN ?kfbX ?_; (case kfbF => k_asm); (case kfbN => k_asm); (case kfbX => k_asm); k_whole); intro x' h' F' N' l1; (try k_lt l1); (try k_sweep)))
local macro_rules | `(tactic| walk_at "eval Name") => `(tactic| (first
  | ((name_kind "local"); (with_reducible refine' fastL ?xF ?xl ?xv ?xk ?xd ?_); (case xl => decide +kernel); (case xF => k_asm); (case xk => first | exact rfl | assumption); (case xd => kernel_rfl); (case xv => k_dflt (exact rfl)); k_whole)
  | ((name_kind "globalImplicit"); (with_reducible refine' fastG ?xF ?xl ?xX ?xT ?xe ?xk ?xd ?_); (case xl => decide +kernel); (case xF => k_asm); (case xX => k_asm); (case xT => k_asm); (case xe => k_dflt k_is); (case xk => first | exact rfl | assumption); (case xd => kernel_rfl); k_whole)
  | ((name_kind "globalImplicit"); name_is_builtin; (with_reducible refine' fastB ?xF ?xl ?xX ?xT ?xe ?xv ?xn ?xk ?xd ?_); (case xl => kernel_rfl); (case xF => k_asm); (case xX => k_asm); (case xT => k_asm); (case xe => k_dflt k_is); (case xv => k_dflt (first | boot_fast | boot_by_name)); (case xn => decide); (case xk => first | exact rfl | assumption); (case xd => kernel_rfl); k_whole)
  | ((name_kind "local"); (with_reducible refine' fastXL ?xF ?xl ?xv ?xk ?xd ?_); (case xl => decide +kernel); (case xF => k_asm); (case xk => first | exact rfl | assumption); (case xd => kernel_rfl); (case xv => k_dflt (exact rfl)); k_whole)
  | ((name_kind "cell"); (with_reducible refine' fastXC ?xN ?xl ?xc ?xm ?xo ?xk ?xd ?_); (case xl => decide +kernel); (case xN => k_asm); (case xc => k_dflt (exact rfl)); (case xm => k_dflt k_mem); (case xo => k_dflt k_asm); (case xk => first | exact rfl | assumption); (case xd => kernel_rfl); k_whole)
  | ((name_kind "globalImplicit"); (with_reducible refine' fastXG ?xF ?xl ?xX ?xT ?xe ?xk ?xd ?_); (case xl => decide +kernel); (case xF => k_asm); (case xX => k_asm); (case xT => k_asm); (case xe => k_dflt k_is); (case xk => first | exact rfl | assumption); (case xd => kernel_rfl); k_whole)
  | ((name_kind "globalImplicit"); name_is_builtin; (with_reducible refine' fastXB ?xF ?xl ?xX ?xT ?xe ?xv ?xn ?xk ?xd ?_); (case xl => kernel_rfl); (case xF => k_asm); (case xX => k_asm); (case xT => k_asm); (case xe => k_dflt k_is); (case xv => k_dflt (first | boot_fast | boot_by_name)); (case xn => decide); (case xk => first | exact rfl | assumption); (case xd => kernel_rfl); k_whole)
  | ((name_kind "local"); (with_reducible refine' fastYL ?xF ?xl ?xv ?xk ?xd ?_); (case xl => decide +kernel); (case xF => k_asm); (case xk => first | exact rfl | assumption); (case xd => kernel_rfl); (case xv => k_dflt (exact rfl)); k_whole)
  | ((name_kind "cell"); (with_reducible refine' fastYC ?xN ?xl ?xc ?xm ?xo ?xk ?xd ?_); (case xl => decide +kernel); (case xN => k_asm); (case xc => k_dflt (exact rfl)); (case xm => k_dflt k_mem); (case xo => k_dflt k_asm); (case xk => first | exact rfl | assumption); (case xd => kernel_rfl); k_whole)
  | ((name_kind "globalImplicit"); (with_reducible refine' fastYG ?xF ?xl ?xX ?xT ?xe ?xk ?xd ?_); (case xl => decide +kernel); (case xF => k_asm); (case xX => k_asm); (case xT => k_asm); (case xe => k_dflt k_is); (case xk => first | exact rfl | assumption); (case xd => kernel_rfl); k_whole)
  | ((name_kind "globalImplicit"); name_is_builtin; (with_reducible refine' fastYB ?xF ?xl ?xX ?xT ?xe ?xv ?xn ?xk ?xd ?_); (case xl => kernel_rfl); (case xF => k_asm); (case xX => k_asm); (case xT => k_asm); (case xe => k_dflt k_is); (case xv => k_dflt (first | boot_fast | boot_by_name)); (case xn => decide); (case xk => first | exact rfl | assumption); (case xd => kernel_rfl); k_whole)
  | ((name_kind "local"); (with_reducible refine' fastCL ?xN ?xl ?xm ?xo ?xv ?xk ?xd ?_); (case xl => decide +kernel); (case xN => k_asm); (case xm => k_dflt k_mem); (case xo => assumption); (case xv => assumption); (case xk => exact rfl); (case xd => kernel_rfl); k_whole)
  | ((name_kind "free"); (with_reducible refine' fastCF ?xN ?xl ?xe ?xs ?xc ?xm ?xo ?xk ?xd ?_); (case xl => decide +kernel); (case xe => kernel_rfl); (case xs => kernel_rfl); (case xN => k_asm); (case xc => k_dflt (exact rfl)); (case xm => k_dflt k_mem); (case xo => k_dflt k_asm); (case xk => exact rfl); (case xd => kernel_rfl); k_whole)
  | ((name_kind "free"); (with_reducible refine' fastCY ?xN ?xl ?xe ?xs ?xc ?xm ?xo ?xk ?xd ?_); (case xl => decide +kernel); (case xe => kernel_rfl); (case xs => kernel_rfl); (case xN => k_asm); (case xc => k_dflt (exact rfl)); (case xm => k_dflt k_mem); (case xo => k_dflt k_asm); (case xk => exact rfl); (case xd => kernel_rfl); k_whole)
  | ((name_kind "globalImplicit"); (with_reducible refine' fastCG ?xF ?xl ?xX ?xT ?xe ?xg ?xk ?xd ?_); (case xl => decide +kernel); (case xF => k_asm); (case xX => k_asm); (case xT => k_asm); (case xe => k_dflt k_is); (case xg => k_dflt (exact rfl)); (case xk => exact rfl); (case xd => kernel_rfl); k_whole)
  | ((name_kind "globalImplicit"); name_is_builtin; (with_reducible refine' fastCB ?xF ?xl ?xX ?xT ?xe ?xv ?xn ?xg ?xb ?xk ?xd ?_); (case xl => kernel_rfl); (case xF => k_asm); (case xX => k_asm); (case xT => k_asm); (case xe => k_dflt k_is); (case xv => k_dflt (first | boot_fast | boot_by_name)); (case xn => decide); (case xg => k_dflt (exact rfl)); (case xb => k_dflt (exact rfl)); (case xk => exact rfl); (case xd => kernel_rfl); k_whole)))
local macro_rules | `(tactic| walk_at "call ref") => `(tactic| ((with_reducible show wpAny _ _ (call (Value.ref 66) _) _ _ _); k_dflt (first
  | (refine' bfo1 ?B ?F ?X ?T ?hk ?hd ?hu ?_)
  | (refine' bfo2 ?B ?F ?X ?T ?hk ?hd ?hu ?hz ?_; (case hz => assumption))); (case B => k_asm); (case F => k_asm); (case X => k_asm); (case T => k_asm); (case hk => first | exact rfl | assumption); (case hd => ktr_room); (case hu => ktr_units); (intro h9 t9 k9 hk9); (have F9 := Fr.keeps (by k_asm) hk9); (have N9 := News.grown (by k_asm) hk9); clear hk9; (try k_sweep)))
local macro_rules | `(tactic| walk_at "call builtin:object.__new__") => `(tactic| (k_dflt (refine' new_C ?k1 ?k2 ?k3 ?k4 ?k5 ?k6 ?k7 ?k8 ?k9 ?k10 ?_; (case k1 => k_asm); (case k2 => k_asm); (case k3 => k_asm); (case k4 => k_is); (case k5 => rfl); (case k6 => rfl); (case k7 => k_is); (case k8 => k_is); (case k9 => intro S; kernel_rfl); (case k10 => intro S; kernel_rfl); k_whole); intro x' d' h' F' N' l1 l2; (try k_lt l1); (try k_lt2 l2); (try k_sweep)))
local macro_rules | `(tactic| walk_at "ite") => `(tactic| (k_closed; with_reducible (first | (refine' iteBT ?hIte ?_; (case hIte => decide +kernel)) | (refine' iteBF ?hIte ?_; (case hIte => decide +kernel)))))
local macro_rules | `(tactic| walk_at "ite") => `(tactic| with_reducible (first | refine iteTT ?_ | refine iteFT ?_ | refine iteNeS ?_ | refine iteEqS ?_))
section
variable {w : World} {mean : ExcName → Option Value} {mg mb : Str → Option Value} {dp un : Nat} {gd : Option (List Code)} {cn : Str} {cs : Scope} {a : Addr} {ccd : Value} {cl : List (Str × Addr)} {outer : List Env} {A₀ : Around} {base h₀ : Heap} {L : Addr} {m : Str → Option Value} {s : Shared} {Q E : Value → Shared → Prop}
set_option maxHeartbeats 1500000 in
theorem io_from (B : Below A₀ base outer h₀) (F : Fr h₀ L s.heap m) (X : (hd.heap_39 w.params).In h₀) (T : Top hd.view_39 Lz mean mg mb h₀) (hk : cs.kind = .function) (hdp : dp + 12 < recursionLimit) (hun : un + 90 < cLine)
    {k : Array UInt8} {tk : Tok} (hz : k.size ≤ 1000) (hret : RetIO w s Q 367 k) :
    wpC (model Challenge.pw_ez0013_01 w) (ktrTop dp un gd cn cs L a ccd cl outer) (call (.ref 623) [.bytes k tk]) Q E s := by
  refine fill (Q := PySem.Challenge.rw_ez0013_01 = PySem.Challenge.rw_ez0013_01 ∧ hd.heap_39 = hd.heap_39) ?_
  k_fill
  refine ⟨⟨rfl, rfl⟩, ?_⟩
  refine wpC_call ?_
  k_dflt (((refine' code_ownC (binds := [(Str.ofString "stream", Value.bytes k tk)]) ?k1 ?k2 ?k3 ?k5 ?kA ?kF ?kK ?k6 ?k7 ?k8 ?k9 ?kB ?_ ?c2 ?c3 ?c4 ?c5; (case kA => exact rfl); (case kF => exact rfl); (case kK => first | exact rfl | assumption); (case k1 => k_asm); (case k2 => k_asm); (case k3 => k_asm); (case k5 => k_asm); (case k6 => k_is); (case k7 => k_is); (case k8 => ktr_room); (case k9 => first | exact BindsTo.of_eq rfl | exact binds_K (by k_in) rfl (by k_is) rfl rfl rfl); (case c5 => decide); (case kB => exact locs rfl); (case c2 => exact rfl); (case c3 => exact rfl); (case c4 => exact rfl); k_whole; intro L' h' F' N' B' X' T'; (try dsimp only); (try k_lift B'); (try k_fold))))
  refine wpC_execs ?_
  refine wpC_any ?_
  repeat' ((fail_if_success (with_reducible show wpC _ _ _ _ _ _)); (first | (k_unfold; (try dsimp only)) | (k_end; wrow_close) | walk1 | (dsimp only; walk1) | (leave1; (try dsimp only)) | fail "no step"))
  refine wpC_execs ?_
  refine wpC_Return ?_
  refine wpC_Call_Name ?_
  repeat' ((fail_if_success (with_reducible show wpC _ _ _ _ _ _)); (first | (k_unfold; (try dsimp only)) | (k_end; wrow_close) | walk1 | (dsimp only; walk1) | (leave1; (try dsimp only)) | fail "no step"))
  refine' wpC_callWith_K ?kX ?kI ?_; (case kX => k_asm); (case kI => k_is)
  repeat' ((fail_if_success (with_reducible show wpC _ _ _ _ _ _)); (first | (k_unfold; (try dsimp only)) | (k_end; wrow_close) | walk1 | (dsimp only; walk1) | (leave1; (try dsimp only)) | fail "no step"))
  refine wpC_call ?_
  refine' make_C ?k1 ?k2 ?k3 ?k4 ?k5 ?k6 ?k7 ?k8 ?k9 ?_; (case k1 => k_in); (case k2 => k_is); (case k3 => rfl); (case k4 => k_is); (case k5 => k_is); (case k6 => intro S; rfl); (case k7 => k_is); (case k8 => k_is); (case k9 => k_is)
  repeat' ((fail_if_success (with_reducible show wpC _ _ _ _ _ _)); (first | (k_unfold; (try dsimp only)) | (k_end; wrow_close) | walk1 | (dsimp only; walk1) | (leave1; (try dsimp only)) | fail "no step"))
  · k_inst
  refine nameX fun y ey => ?_
  subst ey
  k_dflt (((refine' code_dC (binds := [(Str.ofString "self", Value.ref y), (Str.ofString "initial_bytes", Value.bytes k tk)]) ?k1 ?k2 ?k3 ?k4 ?k5 ?kA ?kF ?kK ?k6 ?k7 ?k8 ?k9 ?kB ?_ ?c2 ?c3 ?c4 ?c5; (case kA => exact rfl); (case kF => exact rfl); (case kK => exact rfl); (case k1 => k_asm); (case k2 => k_asm); (case k3 => k_asm); (case k4 => k_asm); (case k5 => k_asm); (case k6 => k_is); (case k7 => k_is); (case k8 => ktr_room); (case k9 => first | exact BindsTo.of_eq rfl | exact binds_K (by k_in) rfl (by k_is) rfl rfl rfl); (case c5 => decide); (case kB => exact locs rfl); (case c2 => exact rfl); (case c3 => exact rfl); (case c4 => exact rfl); k_whole; intro g' L' h' FG' F' N' B' X' T'; (try dsimp only); (try k_lift B'); (try k_fold))))
  refine wpC_execs ?_
  refine wpC_any ?_
  repeat' ((fail_if_success (with_reducible show wpC _ _ _ _ _ _)); (first | (k_unfold; (try dsimp only)) | (k_end; wrow_close) | walk1 | (dsimp only; walk1) | (leave1; (try dsimp only)) | fail "no step"))
  refine wpC_execs ?_
  refine wpC_Assign_Attr ?_
  refine wpC_IfExp ?_
  repeat' ((fail_if_success (with_reducible show wpC _ _ _ _ _ _)); (first | (k_unfold; (try dsimp only)) | (k_end; wrow_close) | walk1 | (dsimp only; walk1) | (leave1; (try dsimp only)) | fail "no step"))
  refine wpC_Call_Name ?_
  repeat' ((fail_if_success (with_reducible show wpC _ _ _ _ _ _)); (first | (k_unfold; (try dsimp only)) | (k_end; wrow_close) | walk1 | (dsimp only; walk1) | (leave1; (try dsimp only)) | fail "no step"))
  refine wpC_callWith_type ?_
  repeat' ((fail_if_success (with_reducible show wpC _ _ _ _ _ _)); (first | (k_unfold; (try dsimp only)) | (k_end; wrow_close) | walk1 | (dsimp only; walk1) | (leave1; (try dsimp only)) | fail "no step"))
  refine' ba_K ?kF ?kN hz ?_; (case kF => k_asm); (case kN => k_asm); k_whole
  intro q h' F' N' l1
  (try k_lt l1)
  (try k_sweep)
  repeat' ((fail_if_success (with_reducible show wpC _ _ _ _ _ _)); (first | (k_unfold; (try dsimp only)) | (k_end; wrow_close) | walk1 | (dsimp only; walk1) | (leave1; (try dsimp only)) | fail "no step"))
  refine wpC_any ?_
  repeat' ((fail_if_success (with_reducible show wpC _ _ _ _ _ _)); (first | (k_unfold; (try dsimp only)) | (k_end; wrow_close) | walk1 | (dsimp only; walk1) | (leave1; (try dsimp only)) | fail "no step"))
  exact hret _ _ _ _ _ _ _ _ _ (Fr.keep (by assumption)) (io_news (by assumption)) (by assumption) (And.left (by assumption))
end
end Mine

end
section
open PySem PySem.W PySem.Calls PyProof.Rows
namespace Mine
set_option maxRecDepth 100000
/-- what was there is there, but for the slots of the frames -/
structure Back (fs : List Addr) (h h' : Heap) : Prop where
  other : ∀ b o, h.get? b = some o → b ∉ fs → h'.get? b = some o
  frame : ∀ b o, h.get? b = some o → b ∈ fs → ∃ sl, h'.get? b = some { o with slots := sl }
theorem Back.of_turn {fs : List Addr} {h g' h' : Heap} {L : Addr} {m : Str → Option Value} (T : KtsTurn fs h g') (F : Fr g' L h' m) : Back fs h h' :=
  ⟨fun b o e n => F.keep b o (T.other b o e n), fun b o e n => let ⟨sl, q⟩ := T.frame b o e n; ⟨sl, F.keep _ _ q⟩⟩
theorem Back.of_keep {fs : List Addr} {h h' : Heap} {L : Addr} {m : Str → Option Value} (F : Fr h L h' m) : Back fs h h' :=
  ⟨fun b o e _ => F.keep b o e, fun b o e _ => ⟨o.slots, F.keep b o e⟩⟩
abbrev fsOf (outer : List Env) : List Addr := outer.filterMap (·.frame)
abbrev RetT (s : Shared) (fs : List Addr) (Q : Value → Shared → Prop) (R : Tok → Value) : Prop :=
  ∀ (h' : Heap) (t : Tok) (k : Nat), Back fs s.heap h' → Q (R t) { s with heap := h', toks := k }
section
variable {A₀ A : Around} {base h₀ h h' : Heap} {outer : List Env} {L : Addr} {m : Str → Option Value} {news : List (Addr × Obj)} {K : Frag} {p : Program} {loose : List Str} {mean : ExcName → Option Value} {mg mb : Str → Option Value}
theorem own_dicts (F : Fr h₀ L h m) (D : KtsDicts (fsOf outer) h₀) : KtsDicts (L :: fsOf outer) h := fun b hb => by
  rcases List.mem_cons.mp hb with rfl | hb
  · obtain ⟨o, es, ep, ho, hd, _⟩ := F.ns
    exact ⟨o, es, ep, ho, hd⟩
  · obtain ⟨o, es, n, ho, hd⟩ := D b hb
    exact ⟨o, es, n, F.keep _ _ ho, hd⟩
theorem own_dictsX {cn : Str} {cs : Scope} {a : Addr} {ccd : Value} {cl : List (Str × Addr)} (F : Fr h₀ L h m) (D : KtsDicts (fsOf outer) h₀) : KtsDicts ((envX cn cs L a ccd cl :: outer).filterMap (·.frame)) h := own_dicts F D
/-- behind a call whose frames' slots may have changed -/
theorem turn_after (B : Below A₀ base outer h₀) (F : Fr h₀ L h m) (N : News h₀ L h news) (X : K.In base) (T : Top p loose mean mg mb base) (D : KtsDicts (fsOf outer) h₀) (k : Back (L :: fsOf outer) h h') :
    ∃ g', KtsTurn (fsOf outer) h₀ g' ∧ Fr g' L h' m ∧ News g' L h' news ∧ Below A₀ base outer g' ∧ K.In g' ∧ Top p loose mean mg mb g' ∧ KtsDicts (fsOf outer) g' := by
  obtain ⟨T₁, S⟩ := kts_turn_at (h := h') (fs := fsOf outer) (g := h₀)
    (fun b hb => by obtain ⟨o, es, n, ho, hd⟩ := D b hb; exact ⟨o, ho⟩)
    (fun b o e nm => k.other b o (F.keep b o e) (fun hm => by
      rcases List.mem_cons.mp hm with z | z
      · rw [z, kts_self F] at e
        cases e
      · exact nm z))
    (fun b o e hm => k.frame b o (F.keep b o e) (List.mem_cons_of_mem _ hm))
  have K' : Below A₀ base outer (ktsHeap h' (fsOf outer) h₀) := ⟨B.stack, fun b o e => T₁.other b o (B.stays b o e) (fun hm => by
    rw [(B.frames.mem hm).1] at e
    cases e), B.frames.of_keeps fun b o e _ => by
      obtain ⟨sl, hs⟩ := T₁.up e
      exact ⟨_, hs, rfl⟩⟩
  refine ⟨_, T₁, ⟨?_, S, by rw [T₁.size]; exact F.above⟩, fun q hq => ⟨k.other _ _ (N q hq).1 (fun hm => ?_), (N q hq).2.1, T₁.none_ _ (N q hq).2.2⟩, K', X.keeps K'.stays, T.keeps K'.stays, D.turn T₁⟩
  · obtain ⟨o, es, ep, ho, hd, r⟩ := F.ns
    obtain ⟨sl, q⟩ := k.frame _ _ ho (List.mem_cons_self ..)
    exact ⟨_, es, ep, q, hd, r⟩
  · rcases List.mem_cons.mp hm with z | z
    · exact (N q hq).2.1 z
    · obtain ⟨o, es, n, ho, hd⟩ := D _ z
      rw [(N q hq).2.2] at ho
      cases ho
end
end Mine

end
section
open PySem PySem.W PySem.Calls PyProof.Rows
namespace Mine
set_option maxRecDepth 100000
section
variable {prog : Program} {w : World} {A₀ A : Around} {s : Shared} {base h₀ : Heap} {outer : List Env} {L : Addr} {m : Str → Option Value} {env : Env} {K : Frag} {p : Program} {loose : List Str} {mean : ExcName → Option Value} {mg mb : Str → Option Value}
  {R : Result → Shared → Prop} {name qual : Str} {params : Arguments} {body : List Stmt} {scope : Scope} {dV kV doc pm cdv ct oc : Value} {an od : Option Addr} {osl : Array (Option Value)} {f : Addr} {args : Args} {binds : List (Str × Value)}
/-- a def with cells is entered, its ground the heap as it stands -/
theorem code_ownX (B : Below A₀ base outer h₀) (F : Fr h₀ L s.heap m) (X₀ : K.In h₀) (T : Top p loose mean mg mb h₀) (hA : A.frames = some (env :: outer)) (hf : env.frame = some L) (hke : env.scope.kind = .function)
    (ho : K.lookup f = some ⟨oc, od, .func (fnOf name qual params body scope dV kV doc pm an cdv ct), osl⟩) (hcd : codeIn K cdv qual = true) (hroom : A.depth < recursionLimit)
    (hbind : BindsTo s (fnOf name qual params body scope dV kV doc pm an cdv ct) args binds) (hkind : (binds.all fun y => scope.names.lookup y.1 == some .local || scope.names.lookup y.1 == some .cell) = true)
    (hnd : ((cellsFrom 0 scope.names []).map (·.1)).Nodup)
    (h : ∀ L' h₁ tk cells, Fr s.heap L' h₁ (bindL (envOfC qual scope L' f cdv).kindOf binds fun _ => none) → News s.heap L' h₁ (cells ++ []) →
      CellsAre (bindC (envOfC qual scope L' f cdv).kindOf binds fun _ => none) (cellsFrom (L' + 1) scope.names []) cells → Below A base (env :: outer) s.heap → K.In s.heap → Top p loose mean mg mb s.heap →
      wpAny (model prog w) (A.deeper (envOfC qual scope L' f cdv)) (execs body (envOfC qual scope L' f cdv)) (fun fl s' => R (.ok (.ret (match fl with | .ret v => v | _ => .none))) s')
        (fun e s' => wpAny (model prog w) (A.deeper (envOfC qual scope L' f cdv)) (leaving (envOfC qual scope L' f cdv) e) (fun _ s'' => R (.error e) s'') (fun e' s'' => R (.error e') s'') s')
        { s with heap := h₁, toks := tk })
    (hco : scope.isCoroutine = false) (hgen : scope.isGenerator = false) (hk : scope.kind = .function) : codeAny (model prog w) A (.call (.ref f) args) R s := by
  have X := X₀.keeps F.keep
  have hlim := T.nolimit.keeps F.keep
  refine codeAny_call_function hroom (X _ _ ho) rfl hco hgen rfl (codeRec_of X hcd) (hbind _ _ _ _ ?_)
  refine wpAny_newFunctionEnv_cells hk (kindsX hkind _) fun env' he s' x => ?_
  subst he
  refine ⟨hlim.keeps x.toInCall.keep, codeAny_func ?_⟩
  obtain ⟨h₁, tk, rfl, _⟩ := x.done
  have hk₁ := x.toInCall.keep
  obtain ⟨cells, NC, Y⟩ := Cl.news (h₀ := s.heap) (Nat.le_refl _) fun n c hm => ⟨x.cell n c (lookup_of_mem_nodup (cellsFrom_names scope.names 0 (s.heap.objs.size + 1) [] [] rfl ▸ hnd) hm), x.above n c hm⟩
  exact h s.heap.objs.size h₁ tk cells ⟨x.toInCall.ns, hk₁, Nat.le_refl _⟩ (by rw [List.append_nil]; exact NC) Y (own_below B F hA hf hke) X (T.keeps F.keep)
theorem code_ownXC (B : Below A₀ base outer h₀) (F : Fr h₀ L s.heap m) (X₀ : K.In h₀) (T : Top p loose mean mg mb h₀) (hA : A.frames = some (env :: outer)) (hf : env.frame = some L) (hke : env.scope.kind = .function)
    (ho : K.lookup f = some ⟨oc, od, .func (fnOf name qual params body scope dV kV doc pm an cdv ct), osl⟩) (hcd : codeIn K cdv qual = true) (hroom : A.depth < recursionLimit)
    (hbind : BindsTo s (fnOf name qual params body scope dV kV doc pm an cdv ct) args binds) (hkind : (binds.all fun y => scope.names.lookup y.1 == some .local || scope.names.lookup y.1 == some .cell) = true)
    (hnd : ((cellsFrom 0 scope.names []).map (·.1)).Nodup)
    (h : ∀ L' h₁ tk cells, Fr s.heap L' h₁ (bindL (envOfC qual scope L' f cdv).kindOf binds fun _ => none) → News s.heap L' h₁ (cells ++ []) →
      CellsAre (bindC (envOfC qual scope L' f cdv).kindOf binds fun _ => none) (cellsFrom (L' + 1) scope.names []) cells → Below A base (env :: outer) s.heap → K.In s.heap → Top p loose mean mg mb s.heap →
      wpC (model prog w) (A.deeper (envOfC qual scope L' f cdv)) (execs body (envOfC qual scope L' f cdv)) (fun fl s' => R (.ok (.ret (match fl with | .ret v => v | _ => .none))) s')
        (fun e s' => wpAny (model prog w) (A.deeper (envOfC qual scope L' f cdv)) (leaving (envOfC qual scope L' f cdv) e) (fun _ s'' => R (.error e) s'') (fun e' s'' => R (.error e') s'') s')
        { s with heap := h₁, toks := tk })
    (hco : scope.isCoroutine = false) (hgen : scope.isGenerator = false) (hk : scope.kind = .function) : codeC (model prog w) A (.call (.ref f) args) R s := by
  have X := X₀.keeps F.keep
  have hlim := T.nolimit.keeps F.keep
  refine codeC_call_function hroom (X _ _ ho) rfl hco hgen rfl (codeRec_of X hcd) (hbind _ _ _ _ ?_)
  refine wpAny_newFunctionEnv_cells hk (kindsX hkind _) fun env' he s' x => ?_
  subst he
  refine ⟨hlim.keeps x.toInCall.keep, codeC_func ?_⟩
  obtain ⟨h₁, tk, rfl, _⟩ := x.done
  have hk₁ := x.toInCall.keep
  obtain ⟨cells, NC, Y⟩ := Cl.news (h₀ := s.heap) (Nat.le_refl _) fun n c hm => ⟨x.cell n c (lookup_of_mem_nodup (cellsFrom_names scope.names 0 (s.heap.objs.size + 1) [] [] rfl ▸ hnd) hm), x.above n c hm⟩
  exact h s.heap.objs.size h₁ tk cells ⟨x.toInCall.ns, hk₁, Nat.le_refl _⟩ (by rw [List.append_nil]; exact NC) Y (own_below B F hA hf hke) X (T.keeps F.keep)
end
theorem p256_ne (k : Nat) : (256 : Int) ^ k ≠ 0 := Int.ne_of_gt (Int.pow_pos (by decide))
theorem np256 {x : Int} {k : Nat} (hk : k ≤ 64) : Builtin.divisionGoesByPylong x ((256 : Int) ^ k) = false := by
  refine PyProof.noPylong_of_log2 ?_
  have e : ((256 : Int) ^ k).natAbs = 2 ^ (8 * k) := by
    rw [Int.natAbs_pow, Nat.pow_mul]
    rfl
  rw [e, Nat.log2_two_pow]
  omega
/-- the number's low octets, least first -/
abbrev lowI (n : Int) (k : Nat) : Array UInt8 := byteArr (List.map (fun k' => (n.fdiv (256 ^ k'.toNat)).fmod 256) (rangeKs 0 k))
/-- a length, written so wide -/
def lenA (n : Int) : Nat → Array UInt8
  | 0 => #[n.toNat.toUInt8]
  | 1 => #[253] ++ lowI n 2
  | 2 => #[254] ++ lowI n 4
  | _ => #[255] ++ lowI n 8
end Mine

end
section
open PySem PySem.W PySem.Calls PyProof.Rows
namespace Mine
set_option maxRecDepth 100000
def lowL (N k : Nat) : List UInt8 := (List.range k).map fun i => (N / 256 ^ i % 256).toUInt8
theorem lowL_length (N k : Nat) : (lowL N k).length = k := by simp [lowL]
theorem lowL_succ (N k : Nat) : lowL N (k + 1) = (N % 256).toUInt8 :: lowL (N / 256) k := by
  unfold lowL
  rw [List.range_succ_eq_map, List.map_cons, List.map_map]
  refine congr (congrArg _ (by rw [Nat.pow_zero, Nat.div_one])) (List.map_congr_left fun i _ => ?_)
  show (N / 256 ^ (i + 1) % 256).toUInt8 = _
  rw [Nat.pow_succ, Nat.mul_comm, ← Nat.div_div_eq_div_mul]
theorem u8_toNat (x : Nat) (h : x < 256) : (x.toUInt8).toNat = x := by
  show (UInt8.ofNat x).toNat = x
  rw [UInt8.toNat_ofNat']
  exact Nat.mod_eq_of_lt h
theorem nb_lowL : ∀ (k N : Nat), nb (lowL N k).reverse = N % 256 ^ k
  | 0, N => by rw [Nat.pow_zero, Nat.mod_one]; rfl
  | k + 1, N => by
    rw [lowL_succ, List.reverse_cons, nb_snoc, nb_lowL k, u8_toNat _ (Nat.mod_lt _ (by decide)), Nat.pow_succ, Nat.mul_comm (256 ^ k) 256, Nat.mod_mul]
    omega
theorem lowI_toList (N k : Nat) : (lowI (N : Int) k).toList = lowL N k := by
  unfold lowI byteArr rangeKs lowL
  rw [List.toList_toArray, List.map_map, List.map_map]
  refine List.map_congr_left fun i _ => ?_
  show (((N : Int).fdiv (256 ^ ((0 : Int) + (i : Int)).toNat)).fmod 256).toNat.toUInt8 = _
  rw [Int.zero_add, Int.toNat_natCast, KTBy.p256, Int.fdiv_eq_ediv_of_nonneg _ (Int.natCast_nonneg _), Int.fmod_eq_emod_of_nonneg _ (by decide)]
  congr 1
theorem lowI_size (n : Int) (k : Nat) : (lowI n k).size = k := by
  unfold lowI
  rw [byteArr_size, List.length_map, rangeKs_length]
theorem nb_lowI {n : Int} {k : Nat} (h0 : 0 ≤ n) (h1 : n < 256 ^ k) : ((nb (lowI n k).toList.reverse : Nat) : Int) = n := by
  obtain ⟨N, rfl⟩ := Int.eq_ofNat_of_zero_le h0
  rw [lowI_toList, nb_lowL, Nat.mod_eq_of_lt]
  rw [KTBy.p256] at h1
  exact Int.ofNat_lt.mp h1
section
variable {prog : Program} {w : World} {M : Model} {A : Around} {E : Value → Shared → Prop} {s : Shared} {env : Env}
/-- a call with byteorder='little', signed=False -/
theorem callWith_little {P : Heap → Prop} {pos kp1 kp2 cp1 cp2 : Pos} {c1 c2 : Nat} {f : Value} {first : List Value} {e : Expr} {rest : List Expr} {Q : Value → Shared → Prop} (hk : ∀ h, P h → Looks M h (keeperOf f) .machine)
    (h : wpAny M A (spliced (backTo pos (starEach (e :: rest) env))) (fun vs s₁ => P s₁.heap ∧ ∀ t, wpAny M A (call f (first ++ vs) (kwLittle t)) Q E { s₁ with toks := s₁.toks + 1 }) E s)
    (he : backTo pos (starEach (e :: rest) env) = (false, eval e env) :: backTo pos (starEach rest env) := by rfl)
    (hplain : (backTo pos (starEach (e :: rest) env)).any (·.1) = false := by rfl) :
    wpAny M A (callWith pos f first (backTo pos (starEach (e :: rest) env)) (backToKw pos (keywordEach [⟨some (Str.ofString "byteorder"), .Constant (.str (Str.ofString "little")) c1 cp1, kp1⟩, ⟨some (Str.ofString "signed"), .Constant (.bool false) c2 cp2, kp2⟩] env))) Q E s := by
  have hkw : (backToKw pos (keywordEach [⟨some (Str.ofString "byteorder"), .Constant (.str (Str.ofString "little")) c1 cp1, kp1⟩, ⟨some (Str.ofString "signed"), .Constant (.bool false) c2 cp2, kp2⟩] env)).any (·.1.isNone) = false := rfl
  unfold callWith
  refine wpAny_bind (wpAny_holding ?_)
  rw [he] at h ⊢
  refine evalArgs_kwB (by rfl) (wpAny_mono h (fun vs s₁ h₁ => ?_) fun _ _ x => x)
  refine kws_cons (Calls.Constant_str (kws_cons (Constant_bool (kws_nil ?_))))
  refine wpAny_bind (wpAny_standAt ?_)
  rw [← he]
  simp only [hplain, hkw, Bool.or_false]
  refine wpAny_bind ((hk _ h₁.1).here (s := { s₁ with toks := s₁.toks + 1 }) ?_)
  exact wpAny_bind (wpAny_mono (h₁.2 _) (fun r s₂ hr => wpAny_bind (wpAny_holding (wpAny_point (wpAny_pure hr)))) fun _ _ x => x)
theorem keeper_builtin {id : String} (h : Heap) (_ : True) : Looks M h (keeperOf (.builtin id)) .machine := Looks.of_pure rfl
theorem keeper_bound {u : Addr} (h : Heap) (H : KFB.StandsAt u h) : Looks M h (keeperOf (.ref u)) .machine := by
  intro A Q E s k q
  unfold keeperOf
  refine wpAny_bind (wpAny_load (k _ _ H) ?_)
  simp only [KFB.bound, show (Value.type "builtin_function_or_method" != Value.type "method") = true by decide, show (Value.type "builtin_function_or_method" == Value.type "builtin_function_or_method" || Value.type "builtin_function_or_method" == Value.type "method-wrapper") = true by decide, if_true]
  exact wpAny_pure q
/-- n.to_bytes(k, byteorder="little", signed=False) -/
theorem tb_low {n : Int} {k : Nat} {t u v : Tok} {Q : Value → Shared → Prop} (h0 : 0 ≤ n) (h1 : n < 256 ^ k) (hk : k ≤ 1000) (h : ∀ t' k', Q (.bytes (lowI n k) t') { s with toks := k' }) :
    wpAny (model prog w) A (call (.builtin "int.to_bytes") [.int n t, .int (k : Int) u] (kwLittle v)) Q E s := by
  have e := nb_lowI h0 h1
  have z : wpAny (model prog w) A (call (.builtin "int.to_bytes") [.int ((nb (lowI n k).toList.reverse : Nat) : Int) t, .int (k : Int) u] (kwLittle v)) Q E s := by
    refine call_tb_little (by rw [List.length_reverse, Array.length_toList, lowI_size]) hk fun t' k' => ?_
    rw [List.reverse_reverse, Array.toArray_toList]
    exact h t' k'
  rwa [e] at z
end
theorem cast_bytes {x y : Array UInt8} {t : Tok} {s : Shared} {Q : Value → Shared → Prop} (e : x = y) (h : Q (.bytes y t) s) : Q (.bytes x t) s := e ▸ h
theorem cons_app (c : UInt8) (b : Array UInt8) : (c :: b.toList).toArray = #[c] ++ b := arr_ext (by simp)
end Mine

end
section
open PySem PySem.W PySem.Calls PyProof.Rows
namespace Mine
set_option maxRecDepth 100000
section
variable {prog : Program} {w : World} {A : Around} {E : Value → Shared → Prop} {s : Shared} {h₀ : Heap} {L : Addr} {m : Str → Option Value} {news : List (Addr × Obj)} {q : Addr} {b : Array UInt8} {Q : Value → Shared → Prop}
theorem len_baK (N : News h₀ L s.heap news) (hm : (q, baObj b) ∈ news) (hz : b.size ≤ 1000) (h : ∀ t k, Q (.int b.size t) { s with toks := k }) : wpAny (model prog w) A (call (.builtin "len") [.ref q]) Q E s :=
  len_ba (N.get hm) (by omega) (h _ _)
theorem bytes_baK (N : News h₀ L s.heap news) (hm : (q, baObj b) ∈ news) (hz : b.size ≤ 1000) (h : ∀ t k, Q (.bytes b t) { s with toks := k }) : wpAny (model prog w) A (call (.type "bytes") [.ref q]) Q E s :=
  bytes_of_ba (N.get hm) (by rw [sizeLine_eq]; omega) h
theorem clipAt_mid {n : Nat} {i : Int} (h0 : 0 ≤ i) (h1 : i ≤ n) : clipAt n i = i.toNat := by
  have h := clipAt_cast n i
  rw [if_neg (by omega), Int.min_eq_left h1, Int.max_eq_right h0] at h
  omega
theorem cut_K {value slice : PySem.Expr} {lo hi : Int} {t1 t2 : Tok} (F : Fr h₀ L s.heap m) (N : News h₀ L s.heap news) (hm : (q, baObj b) ∈ news) (hz : b.size ≤ 1000) (h0 : 0 ≤ lo) (h1 : lo ≤ hi) (h2 : hi ≤ b.size)
    (h : ∀ r h' (c : Array UInt8), Fr h₀ L h' m → News h₀ L h' ((r, baObj c) :: news) → (∀ p ∈ news, p.1 < r) → c.toList = (b.toList.drop lo.toNat).take (hi - lo).toNat → (c.size : Int) = hi - lo → Q (.ref r) { s with heap := h' })
    (hsub : subscripted slice false (.ref q) (.ref s.heap.objs.size) = operate [.ref s.heap.objs.size, .ref q] (getItem (.ref q) (.ref s.heap.objs.size)) := by with_unfolding_all rfl) :
    wpAny (model prog w) A (subscriptTail value slice (.ref q) (.ref s.heap.objs.size)) Q E { s with heap := s.heap.push { cls := .type "slice", data := .fields #[.int lo t1, .int hi t2, .none] } } := by
  have F1 := F.push ({ cls := .type "slice", data := .fields #[.int lo t1, .int hi t2, .none] } : Obj)
  have N1 := N.pushKeep ({ cls := .type "slice", data := .fields #[.int lo t1, .int hi t2, .none] } : Obj)
  refine ba_cut (b := b) (lo := lo) (hi := hi) (t1 := t1) (t2 := t2) (N1.get hm) ⟨_, Heap.get?_push_size _ rfl, rfl, rfl⟩ (by rw [sizeLine_eq]; omega) ?_ hsub
  have e : KBy.picked b (some lo) (some hi) = ((b.toList.drop lo.toNat).take (hi - lo).toNat).toArray := by
    rw [KBc.picked_eq]
    show ((b.toList.drop (clipAt b.size lo)).take (clipAt b.size hi - clipAt b.size lo)).toArray = _
    rw [clipAt_mid h0 (by omega), clipAt_mid (by omega) h2]
    congr 2
    omega
  rw [e]
  refine h _ _ _ (F1.push _) (N1.push F1 _ rfl) (fun p hp => Heap.lt_size (N1 p hp).1) rfl ?_
  rw [List.size_toArray, List.length_take, List.length_drop, Array.length_toList]
  omega
theorem empty_truthy {t : Tok} {Q : Bool → Shared → Prop} (h : ∀ k, Q false { s with toks := k }) : wpAny (model prog w) A (truthy (.bytes #[] t)) Q E s :=
  truthy_bytes_at (n := 0) rfl (by decide) fun k => h k
/-- the first octet of what was read -/
theorem item0_at {value slice : PySem.Expr} {c : Array UInt8} {x k : Nat} {i0 : Int} {t u : Tok} (hS : c.toList = (b.toList.drop x).take k) (hx : x = 0) (hk : k ≠ 0) (hc : 1 ≤ c.size) (hz : c.size ≤ 1000) (hb0 : (((b.toList.getD 0 0).toNat : Nat) : Int) = i0)
    (h : ∀ t', Q (.int i0 t') { s with toks := s.toks + 1 })
    (hs : subscripted slice false (.bytes c t) (.int 0 u) = operate [.bytes c t, .int 0 u] (getItem (.bytes c t) (.int 0 u)) := by with_unfolding_all rfl)
    (ht : ∀ r, letTemporaryGo value (.bytes c t) r = pure () := by intro _; with_unfolding_all rfl) : wpAny (model prog w) A (subscriptTail value slice (.bytes c t) (.int 0 u)) Q E s := by
  have e : c = c.toList.toArray := by rw [Array.toArray_toList]
  have e2 : (((c.toList.getD (0 : Int).toNat 0).toNat : Nat) : Int) = i0 := by
    rw [← hb0, hS, hx, List.drop_zero]
    obtain ⟨k', rfl⟩ := Nat.exists_eq_succ_of_ne_zero hk
    cases b.toList <;> rfl
  revert hs ht
  rw [e]
  intro hs ht
  exact bytes_item_K (x := c.toList) (by rw [Array.length_toList]; omega) (by decide) (by rw [Array.length_toList]; omega) e2 (h _) hs ht
/-- the number that was read, the least octet first -/
theorem fbl_at {x : Addr} {c : Array UInt8} {c0 : UInt8} {y k kk : Nat} {n : Int} {t u : Tok} (N : News h₀ L s.heap news) (hm : (x, KFB.bound) ∈ news) (hS : c.toList = (b.toList.drop y).take k) (hy : y = 1) (hk : k = kk) (hb : b.toList = c0 :: (lowI n kk).toList)
    (h0 : 0 ≤ n) (h1 : n < 256 ^ kk) (hz : c.size ≤ 1000) (h : ∀ t' k, Q (.int n t') { s with toks := k }) : wpAny (model prog w) A (call (.ref x) [.bytes c t] (kwLittle u)) Q E s := by
  have e : c.toList = (lowI n kk).toList := by
    rw [hS, hb, hy, hk, List.drop_one, List.tail_cons, List.take_of_length_le (by rw [Array.length_toList, lowI_size]; exact Nat.le_refl _)]
  refine call_fb_little N hm hz fun t' k' => ?_
  rw [e, nb_lowI h0 h1]
  exact h t' k'
end
end Mine

end
section
open PySem PySem.W PySem.Calls PyProof.Rows
namespace Mine
/-- an equation that no tactic closes by itself -/
def Same {α : Type} (a b : α) : Prop := a = b
theorem binds_as {s : Shared} {fd : FuncData} {args : Args} {b b' : List (Str × Value)} (h : BindsTo s fd args b) (e : Same b b') : BindsTo s fd args b' := by
  cases e; exact h
theorem same_cons {p : Str × Value} {x : Str} {v : Value} {l l' : List (Str × Value)} (sameX : Same p.1 x) (sameV : Same p.2 v) (sameL : Same l l') : Same (p :: l) ((x, v) :: l') := by
  obtain ⟨a, b⟩ := p
  cases sameX; cases sameV; cases sameL; rfl
theorem same_nil : Same ([] : List (Str × Value)) [] := rfl
theorem same_rfl {α : Type} {a : α} : Same a a := rfl
end Mine

end
section

open PySem PySem.W PySem.Calls PyProof.Rows
namespace Mine
set_option maxRecDepth 100000
local macro_rules | `(tactic| cell_enter) => `(tactic| (refine' code_own ?k1 ?k2 ?k3 ?k5 ?kA ?kF ?kK ?k6 ?k7 ?k8 ?k9 ?kB ?_ ?c2 ?c3 ?c4 ?c5; (case kA => exact rfl); (case kF => exact rfl); (case kK => first | exact rfl | assumption); (case k1 => k_asm); (case k2 => k_asm); (case k3 => k_asm); (case k5 => k_asm); (case k6 => k_is); (case k7 => k_is); (case k8 => ktr_room); (case k9 => first | exact BindsTo.of_eq rfl | exact binds_K (by k_in) rfl (by k_is) rfl rfl rfl); (case c5 => decide); (case kB => exact locs rfl); (case c2 => exact rfl); (case c3 => exact rfl); (case c4 => exact rfl); k_whole; intro L' h' F' N' B' X' T'; (try dsimp only); (try k_lift B'); (try k_fold)))
local macro_rules | `(tactic| walk_at "call type:bytes") => `(tactic| ((with_reducible show wpAny _ _ (call (Value.type "bytes") [Value.bytes _ _]) _ _ _); (refine bytes_of_bytes ?_)))
local macro_rules | `(tactic| k_room) => `(tactic| ktr_room)
local macro_rules | `(tactic| walk_at "call builtin:len") => `(tactic| ((with_reducible show wpAny _ _ (call (Value.builtin "len") [Value.bytes _ _]) _ _ _); (refine len_bytes_at (by assumption) (by omega) ?_); intro _ _))
local macro_rules | `(tactic| walk_at "truthy bytes") => `(tactic| ((with_reducible show wpAny _ _ (truthy (Value.bytes _ _)) _ _ _); (refine truthy_bytes_at (by assumption) (by omega) ?_); intro _))
local macro_rules | `(tactic| walk_at "subscriptTail") => `(tactic| ((with_reducible show wpAny _ _ (subscriptTail _ (Expr.Slice _ _ none _) (Value.bytes _ _) (Value.ref _)) _ _ _); (with_reducible rename Fr _ _ _ _ => F'); (with_reducible rename News _ _ _ _ => N'); (refine slice_B (s := ⟨_, _, _, _, _⟩) F' N' (by constructor) (by constructor) (by omega) ?_); intro h' t' k' c' F' N' hS' hZ'; (dsimp only [Option.elim] at hS'); (dsimp only [Option.elim] at hZ'); (try simp only [List.drop_zero, Nat.sub_zero] at hS'); (try simp only [Nat.sub_zero, clipAt_nat] at hZ'); (try k_sweep)))
local macro_rules | `(tactic| walk_at "binaryOp Mult bytes int") => `(tactic| ((with_reducible show wpAny _ _ (binaryOp Operator.Mult (Value.bytes _ _) (Value.int _ _)) _ _ _); (refine mul_B (by omega) ?n0 ?n1 ?_; (case n0 => first | omega | (simp only [Int.fdiv_eq_ediv_of_nonneg _ (by decide : (0 : Int) ≤ 8)]; omega)); (case n1 => first | omega | (simp only [Int.fdiv_eq_ediv_of_nonneg _ (by decide : (0 : Int) ≤ 8)]; omega))); intro t' k' c' hS' hZ'; (try simp only [Int.fdiv_eq_ediv_of_nonneg _ (by decide : (0 : Int) ≤ 8)] at hZ')))
local macro_rules | `(tactic| walk_at "binaryOp Add bytes bytes") => `(tactic| ((with_reducible show wpAny _ _ (binaryOp Operator.Add (Value.bytes _ _) (Value.bytes _ _)) _ _ _); (refine add_B (by omega) ?_); intro t' k' c' hS' hZ'))
local macro_rules | `(tactic| walk_at "call builtin:len") => `(tactic| ((with_reducible show wpAny _ _ (call (Value.builtin "len") [Value.bytes _ _]) _ _ _); first | ((refine len_bytes_at (by assumption) (by omega) ?_); intro _ _) | ((refine len_B (by omega) ?_); intro _ _)))
local macro_rules | `(tactic| walk_at "call ref") => `(tactic| ((with_reducible show wpAny _ _ (call (Value.ref _) [Value.bytes _ _, Value.str _ _]) _ _ _); k_dflt (refine call_fb_big (by k_asm) (by k_mem) (by omega) ?_); intro _ _))
local macro_rules | `(tactic| walk_at "call type:type") => `(tactic| ((with_reducible show wpAny _ _ (call (Value.type "type") [Value.bytes _ _]) _ _ _); refine call_type_of (Tx := "bytes") (PySem.W.typeIs_bytes _ _ _) (by decide +kernel) ?_))
local macro_rules | `(tactic| walk_at "exec Raise some none") => `(tactic| ((with_reducible show wpAny _ _ (exec (Stmt.Raise (some (Expr.Call (Expr.Name _ _) (_ :: _) [] _)) none _) _) _ _ _); k_dflt (first
  | (refine' Raise_own2 ?F ?g ?O PySem.F.excBase_Exception ?n PySem.F.excBase_ValueError ?h ?_ ?a ?b ?c ?d ?e; (case F => k_asm); (case g => exact TopRead.g (by k_asm)); (case O => exact own_of_in (by k_asm) (by k_asm) (by k_is) (by k_exc)); (case n => rfl); (case h => first | rfl | assumption); (case a => rfl); (case b => rfl); (case c => rfl); (case d => rfl); (case e => decide); k_whole)
  | (refine' Raise_own2 ?F ?g ?O PySem.F.excBase_Exception ?n PySem.F.excBase_TypeError ?h ?_ ?a ?b ?c ?d ?e; (case F => k_asm); (case g => exact TopRead.g (by k_asm)); (case O => exact own_of_in (by k_asm) (by k_asm) (by k_is) (by k_exc)); (case n => rfl); (case h => first | rfl | assumption); (case a => rfl); (case b => rfl); (case c => rfl); (case d => rfl); (case e => decide); k_whole))))
local macro_rules | `(tactic| walk_at "getMethod type:int") => `(tactic| (with_reducible (refine' fast_fb ?kfbF ?kfbN ?kfbX ?_; (case kfbF => k_asm); (case kfbN => k_asm); (case kfbX => k_asm); k_whole); intro x' h' F' N' l1; (try k_lt l1); (try k_sweep)))
local macro_rules | `(tactic| walk_at "eval Name") => `(tactic| (first
  | ((name_kind "local"); (with_reducible refine' fastL ?xF ?xl ?xv ?xk ?xd ?_); (case xl => decide +kernel); (case xF => k_asm); (case xk => first | exact rfl | assumption); (case xd => kernel_rfl); (case xv => k_dflt (exact rfl)); k_whole)
  | ((name_kind "globalImplicit"); (with_reducible refine' fastG ?xF ?xl ?xX ?xT ?xe ?xk ?xd ?_); (case xl => decide +kernel); (case xF => k_asm); (case xX => k_asm); (case xT => k_asm); (case xe => k_dflt k_is); (case xk => first | exact rfl | assumption); (case xd => kernel_rfl); k_whole)
  | ((name_kind "globalImplicit"); name_is_builtin; (with_reducible refine' fastB ?xF ?xl ?xX ?xT ?xe ?xv ?xn ?xk ?xd ?_); (case xl => kernel_rfl); (case xF => k_asm); (case xX => k_asm); (case xT => k_asm); (case xe => k_dflt k_is); (case xv => k_dflt (first | boot_fast | boot_by_name)); (case xn => decide); (case xk => first | exact rfl | assumption); (case xd => kernel_rfl); k_whole)
  | ((name_kind "local"); (with_reducible refine' fastXL ?xF ?xl ?xv ?xk ?xd ?_); (case xl => decide +kernel); (case xF => k_asm); (case xk => first | exact rfl | assumption); (case xd => kernel_rfl); (case xv => k_dflt (exact rfl)); k_whole)
  | ((name_kind "cell"); (with_reducible refine' fastXC ?xN ?xl ?xc ?xm ?xo ?xk ?xd ?_); (case xl => decide +kernel); (case xN => k_asm); (case xc => k_dflt (exact rfl)); (case xm => k_dflt k_mem); (case xo => k_dflt k_asm); (case xk => first | exact rfl | assumption); (case xd => kernel_rfl); k_whole)
  | ((name_kind "globalImplicit"); (with_reducible refine' fastXG ?xF ?xl ?xX ?xT ?xe ?xk ?xd ?_); (case xl => decide +kernel); (case xF => k_asm); (case xX => k_asm); (case xT => k_asm); (case xe => k_dflt k_is); (case xk => first | exact rfl | assumption); (case xd => kernel_rfl); k_whole)
  | ((name_kind "globalImplicit"); name_is_builtin; (with_reducible refine' fastXB ?xF ?xl ?xX ?xT ?xe ?xv ?xn ?xk ?xd ?_); (case xl => kernel_rfl); (case xF => k_asm); (case xX => k_asm); (case xT => k_asm); (case xe => k_dflt k_is); (case xv => k_dflt (first | boot_fast | boot_by_name)); (case xn => decide); (case xk => first | exact rfl | assumption); (case xd => kernel_rfl); k_whole)
  | ((name_kind "local"); (with_reducible refine' fastYL ?xF ?xl ?xv ?xk ?xd ?_); (case xl => decide +kernel); (case xF => k_asm); (case xk => first | exact rfl | assumption); (case xd => kernel_rfl); (case xv => k_dflt (exact rfl)); k_whole)
  | ((name_kind "cell"); (with_reducible refine' fastYC ?xN ?xl ?xc ?xm ?xo ?xk ?xd ?_); (case xl => decide +kernel); (case xN => k_asm); (case xc => k_dflt (exact rfl)); (case xm => k_dflt k_mem); (case xo => k_dflt k_asm); (case xk => first | exact rfl | assumption); (case xd => kernel_rfl); k_whole)
  | ((name_kind "globalImplicit"); (with_reducible refine' fastYG ?xF ?xl ?xX ?xT ?xe ?xk ?xd ?_); (case xl => decide +kernel); (case xF => k_asm); (case xX => k_asm); (case xT => k_asm); (case xe => k_dflt k_is); (case xk => first | exact rfl | assumption); (case xd => kernel_rfl); k_whole)
  | ((name_kind "globalImplicit"); name_is_builtin; (with_reducible refine' fastYB ?xF ?xl ?xX ?xT ?xe ?xv ?xn ?xk ?xd ?_); (case xl => kernel_rfl); (case xF => k_asm); (case xX => k_asm); (case xT => k_asm); (case xe => k_dflt k_is); (case xv => k_dflt (first | boot_fast | boot_by_name)); (case xn => decide); (case xk => first | exact rfl | assumption); (case xd => kernel_rfl); k_whole)
  | ((name_kind "local"); (with_reducible refine' fastCL ?xN ?xl ?xm ?xo ?xv ?xk ?xd ?_); (case xl => decide +kernel); (case xN => k_asm); (case xm => k_dflt k_mem); (case xo => assumption); (case xv => assumption); (case xk => exact rfl); (case xd => kernel_rfl); k_whole)
  | ((name_kind "free"); (with_reducible refine' fastCF ?xN ?xl ?xe ?xs ?xc ?xm ?xo ?xk ?xd ?_); (case xl => decide +kernel); (case xe => kernel_rfl); (case xs => kernel_rfl); (case xN => k_asm); (case xc => k_dflt (exact rfl)); (case xm => k_dflt k_mem); (case xo => k_dflt k_asm); (case xk => exact rfl); (case xd => kernel_rfl); k_whole)
  | ((name_kind "free"); (with_reducible refine' fastCY ?xN ?xl ?xe ?xs ?xc ?xm ?xo ?xk ?xd ?_); (case xl => decide +kernel); (case xe => kernel_rfl); (case xs => kernel_rfl); (case xN => k_asm); (case xc => k_dflt (exact rfl)); (case xm => k_dflt k_mem); (case xo => k_dflt k_asm); (case xk => exact rfl); (case xd => kernel_rfl); k_whole)
  | ((name_kind "globalImplicit"); (with_reducible refine' fastCG ?xF ?xl ?xX ?xT ?xe ?xg ?xk ?xd ?_); (case xl => decide +kernel); (case xF => k_asm); (case xX => k_asm); (case xT => k_asm); (case xe => k_dflt k_is); (case xg => k_dflt (exact rfl)); (case xk => exact rfl); (case xd => kernel_rfl); k_whole)
  | ((name_kind "globalImplicit"); name_is_builtin; (with_reducible refine' fastCB ?xF ?xl ?xX ?xT ?xe ?xv ?xn ?xg ?xb ?xk ?xd ?_); (case xl => kernel_rfl); (case xF => k_asm); (case xX => k_asm); (case xT => k_asm); (case xe => k_dflt k_is); (case xv => k_dflt (first | boot_fast | boot_by_name)); (case xn => decide); (case xg => k_dflt (exact rfl)); (case xb => k_dflt (exact rfl)); (case xk => exact rfl); (case xd => kernel_rfl); k_whole)))
local macro_rules | `(tactic| walk_at "call ref") => `(tactic| ((with_reducible show wpAny _ _ (call (Value.ref 66) _) _ _ _); k_dflt (first
  | (refine' bfo1 ?B ?F ?X ?T ?hk ?hd ?hu ?_)
  | (refine' bfo2 ?B ?F ?X ?T ?hk ?hd ?hu ?hz ?_; (case hz => assumption))); (case B => k_asm); (case F => k_asm); (case X => k_asm); (case T => k_asm); (case hk => first | exact rfl | assumption); (case hd => ktr_room); (case hu => ktr_units); (intro h9 t9 k9 hk9); (have F9 := Fr.keeps (by k_asm) hk9); (have N9 := News.grown (by k_asm) hk9); clear hk9; (try k_sweep)))
local macro_rules | `(tactic| walk_at "binaryOp FloorDiv int int") => `(tactic| ((with_reducible show wpAny _ _ (binaryOp Operator.FloorDiv (Value.int _ _) (Value.int (256 ^ _) _)) _ _ _); (refine floordiv_int (p256_ne _) ?_ (Or.inl (np256 (by omega))))))
local macro_rules | `(tactic| walk_at "callWith builtin:int.to_bytes") => `(tactic| ((with_reducible show wpAny _ _ (callWith _ (Value.builtin _) _ _ (backToKw _ _)) _ _ _); k_dflt (refine callWith_little (P := fun _ => True) keeper_builtin ?_)))
local macro_rules | `(tactic| walk_at "callWith ref") => `(tactic| ((with_reducible show wpAny _ _ (callWith _ (Value.ref _) _ _ (backToKw _ _)) _ _ _); k_dflt (refine callWith_little (P := KFB.StandsAt _) keeper_bound ?_)))
local macro_rules | `(tactic| walk_at "call builtin:int.to_bytes") => `(tactic| ((with_reducible show wpAny _ _ (call (Value.builtin _) _ (kwLittle _)) _ _ _); k_dflt (first | (refine tb_low (k := 2) ?h0 ?h1 (by decide) ?_; (case h0 => omega); (case h1 => omega)) | (refine tb_low (k := 4) ?h0 ?h1 (by decide) ?_; (case h0 => omega); (case h1 => omega)) | (refine tb_low (k := 8) ?h0 ?h1 (by decide) ?_; (case h0 => omega); (case h1 => omega))); intro t8 k8))
local macro_rules | `(tactic| walk_at "call ref") => `(tactic| ((with_reducible show wpAny _ _ (call (Value.ref _) _ (kwLittle _)) _ _ _); k_dflt (refine call_fb_little (by k_asm) (by k_mem) (by omega) ?_); intro _ _))
local macro_rules | `(tactic| walk_at "call builtin:len") => `(tactic| ((with_reducible show wpAny _ _ (call (Value.builtin "len") [Value.ref _]) _ _ _); k_dflt (refine len_baK (by k_asm) (by k_mem) (by omega) ?_); intro _ _))
local macro_rules | `(tactic| walk_at "call type:bytes") => `(tactic| ((with_reducible show wpAny _ _ (call (Value.type "bytes") [Value.ref _]) _ _ _); k_dflt (refine bytes_baK (by k_asm) (by k_mem) (by omega) ?_); intro _ _))
local macro_rules | `(tactic| walk_at "subscriptTail") => `(tactic| ((with_reducible show wpAny _ _ (subscriptTail _ (Expr.Slice _ _ none _) (Value.ref _) (Value.ref _)) _ _ _); (with_reducible rename Fr _ _ _ _ => F'); (with_reducible rename News _ _ _ _ => N'); k_dflt (refine cut_K (s := ⟨_, _, _, _, _⟩) F' N' (by k_mem) (by omega) (by omega) (by omega) (by omega) ?_); intro r' h' c' F' N' l1 hS' hZ'; (try k_lt l1); (try k_sweep)))
local macro_rules | `(tactic| walk_at "subscriptTail") => `(tactic| ((with_reducible show wpAny _ _ (subscriptTail _ (Expr.Constant (Const.int 0) _ _) (Value.bytes _ _) (Value.int _ _)) _ _ _); k_dflt (refine item0_at (by assumption) (by omega) (by omega) (by omega) (by omega) (by assumption) ?_); intro _))
local macro_rules | `(tactic| walk_at "call ref") => `(tactic| ((with_reducible show wpAny _ _ (call (Value.ref _) _ (kwLittle _)) _ _ _); k_dflt (first | refine fbl_at (kk := 2) (by k_asm) (by k_mem) (by assumption) (by omega) (by omega) (by assumption) (by omega) (by omega) (by omega) ?_ | refine fbl_at (kk := 4) (by k_asm) (by k_mem) (by assumption) (by omega) (by omega) (by assumption) (by omega) (by omega) (by omega) ?_ | refine fbl_at (kk := 8) (by k_asm) (by k_mem) (by assumption) (by omega) (by omega) (by assumption) (by omega) (by omega) (by omega) ?_); intro _ _))
local macro_rules | `(tactic| walk_at "truthy bytes") => `(tactic| ((with_reducible show wpAny _ _ (truthy (Value.bytes #[] _)) _ _ _); (refine empty_truthy ?_); intro _))
local macro_rules | `(tactic| k_enter) => `(tactic| ((fail_if_success k_inElt); (refine' code_def ?k1 ?k2 ?k3 ?k4 ?k5 ?kA ?kF ?kK ?k6 ?k7 ?k8 ?k9 ?kB ?_ ?c2 ?c3 ?c4 ?c5; (case kA => exact rfl); (case kF => exact rfl); (case kK => first | exact rfl | assumption); (case k1 => k_asm); (case k2 => k_asm); (case k3 => k_asm); (case k4 => k_asm); (case k5 => k_asm); (case k6 => k_is); (case k7 => k_is); (case k8 => k_room); (case k9 => refine' binds_as ?kb1 ?kb2; (case kb1 => first | exact BindsTo.of_eq rfl | exact binds_K (by k_in) rfl (by k_is) rfl rfl rfl); (case kb2 => (conv => arg 1; whnf); (repeat (apply same_cons; (focus ((conv => arg 1; arg 1; whnf); (try dsimp only); exact same_rfl)); (focus ((conv => arg 1; arg 1; whnf); (try dsimp only); exact same_rfl)); (conv => arg 1; whnf))); exact same_nil)); (case c5 => decide); (case kB => exact locs rfl); (case c2 => exact rfl); (case c3 => exact rfl); (case c4 => exact rfl); k_whole; intro g' L' h' FG' F' N' B' X' T'; (try dsimp only); (try k_lift B'); (try k_fold))))
local macro_rules | `(tactic| walk_at "ite") => `(tactic| (k_closed; with_reducible (first | (refine' iteBT ?hIte ?_; (case hIte => decide +kernel)) | (refine' iteBF ?hIte ?_; (case hIte => decide +kernel)))))
local macro_rules | `(tactic| walk_at "ite") => `(tactic| with_reducible (first | refine iteTT ?_ | refine iteFT ?_ | refine iteNeS ?_ | refine iteEqS ?_))
section
variable {w : World} {mean : ExcName → Option Value} {mg mb : Str → Option Value} {dp un : Nat} {gd : Option (List Code)} {cn : Str} {cs : Scope} {a : Addr} {ccd : Value} {cl : List (Str × Addr)} {outer : List Env} {A₀ : Around} {base h₀ : Heap} {L : Addr} {m : Str → Option Value} {s : Shared} {Q E : Value → Shared → Prop}
set_option maxHeartbeats 1500000 in
theorem len0 (B : Below A₀ base outer h₀) (F : Fr h₀ L s.heap m) (X : (hd.heap_39 w.params).In h₀) (T : Top hd.view_39 Lz mean mg mb h₀) (hk : cs.kind = .function) (hdp : dp + 12 < recursionLimit) (hun : un + 90 < cLine)
    {n : Int} {tn tw : Tok} (hn : 0 ≤ n) (hn' : n < 256) (hret : RetK s Q fun t => .bytes (lenA n 0) t) :
    wpAny (model Challenge.pw_ez0013_01 w) (ktrTop dp un gd cn cs L a ccd cl outer) (call (.ref 713) [.int n tn, .int 0 tw]) Q E s := by
  refine fill (Q := PySem.Challenge.rw_ez0013_01 = PySem.Challenge.rw_ez0013_01 ∧ hd.heap_39 = hd.heap_39) ?_
  k_fill
  refine ⟨⟨rfl, rfl⟩, ?_⟩
  refine wpAny_call ?_
  k_dflt (((refine' code_ownX (binds := [(Str.ofString "number", Value.int n tn), (Str.ofString "width", Value.int 0 tw)]) ?k1 ?k2 ?k3 ?k5 ?kA ?kF ?kK ?k6 ?k7 ?k8 ?k9 ?kB ?kD ?_ ?c2 ?c3 ?c4; (case kA => exact rfl); (case kF => exact rfl); (case kK => first | exact rfl | assumption); (case k1 => k_asm); (case k2 => k_asm); (case k3 => k_asm); (case k5 => k_asm); (case k6 => k_is); (case k7 => k_is); (case k8 => ktr_room); (case k9 => first | exact BindsTo.of_eq rfl | exact binds_K (by k_in) rfl (by k_is) rfl rfl rfl); (case kB => exact rfl); (case kD => decide +kernel); (case c2 => exact rfl); (case c3 => exact rfl); (case c4 => exact rfl); k_whole; intro L' h' tk' cells' F' N' Y' B' X' T'; k_cells Y'; (try simp only [List.cons_append, List.nil_append] at N'); (try dsimp only); (try k_lift B'); (try k_fold))))
  k_steps
  all_goals exact hret _ _ _ (Fr.keep (by assumption))
set_option maxHeartbeats 1500000 in
theorem len1 (B : Below A₀ base outer h₀) (F : Fr h₀ L s.heap m) (X : (hd.heap_39 w.params).In h₀) (T : Top hd.view_39 Lz mean mg mb h₀) (hk : cs.kind = .function) (hdp : dp + 12 < recursionLimit) (hun : un + 90 < cLine)
    {n : Int} {tn tw : Tok} (hn : 0 ≤ n) (hret : RetK s Q fun t => .bytes (lenA n 1) t) :
    wpAny (model Challenge.pw_ez0013_01 w) (ktrTop dp un gd cn cs L a ccd cl outer) (call (.ref 713) [.int n tn, .int 1 tw]) Q E s := by
  refine wpAny_call ?_
  k_dflt (((refine' code_ownX (binds := [(Str.ofString "number", Value.int n tn), (Str.ofString "width", Value.int 1 tw)]) ?k1 ?k2 ?k3 ?k5 ?kA ?kF ?kK ?k6 ?k7 ?k8 ?k9 ?kB ?kD ?_ ?c2 ?c3 ?c4; (case kA => exact rfl); (case kF => exact rfl); (case kK => first | exact rfl | assumption); (case k1 => k_asm); (case k2 => k_asm); (case k3 => k_asm); (case k5 => k_asm); (case k6 => k_is); (case k7 => k_is); (case k8 => ktr_room); (case k9 => first | exact BindsTo.of_eq rfl | exact binds_K (by k_in) rfl (by k_is) rfl rfl rfl); (case kB => exact rfl); (case kD => decide +kernel); (case c2 => exact rfl); (case c3 => exact rfl); (case c4 => exact rfl); k_whole; intro L' h' tk' cells' F' N' Y' B' X' T'; k_cells Y'; (try simp only [List.cons_append, List.nil_append] at N'); (try dsimp only); (try k_lift B'); (try k_fold))))
  k_steps
  all_goals exact hret _ _ _ (Fr.keep (by assumption))
set_option maxHeartbeats 1500000 in
theorem len2 (B : Below A₀ base outer h₀) (F : Fr h₀ L s.heap m) (X : (hd.heap_39 w.params).In h₀) (T : Top hd.view_39 Lz mean mg mb h₀) (hk : cs.kind = .function) (hdp : dp + 12 < recursionLimit) (hun : un + 90 < cLine)
    {n : Int} {tn tw : Tok} (hn : 0 ≤ n) (hret : RetK s Q fun t => .bytes (lenA n 2) t) :
    wpAny (model Challenge.pw_ez0013_01 w) (ktrTop dp un gd cn cs L a ccd cl outer) (call (.ref 713) [.int n tn, .int 2 tw]) Q E s := by
  refine wpAny_call ?_
  k_dflt (((refine' code_ownX (binds := [(Str.ofString "number", Value.int n tn), (Str.ofString "width", Value.int 2 tw)]) ?k1 ?k2 ?k3 ?k5 ?kA ?kF ?kK ?k6 ?k7 ?k8 ?k9 ?kB ?kD ?_ ?c2 ?c3 ?c4; (case kA => exact rfl); (case kF => exact rfl); (case kK => first | exact rfl | assumption); (case k1 => k_asm); (case k2 => k_asm); (case k3 => k_asm); (case k5 => k_asm); (case k6 => k_is); (case k7 => k_is); (case k8 => ktr_room); (case k9 => first | exact BindsTo.of_eq rfl | exact binds_K (by k_in) rfl (by k_is) rfl rfl rfl); (case kB => exact rfl); (case kD => decide +kernel); (case c2 => exact rfl); (case c3 => exact rfl); (case c4 => exact rfl); k_whole; intro L' h' tk' cells' F' N' Y' B' X' T'; k_cells Y'; (try simp only [List.cons_append, List.nil_append] at N'); (try dsimp only); (try k_lift B'); (try k_fold))))
  k_steps
  all_goals exact hret _ _ _ (Fr.keep (by assumption))
set_option maxHeartbeats 1500000 in
theorem len3 (B : Below A₀ base outer h₀) (F : Fr h₀ L s.heap m) (X : (hd.heap_39 w.params).In h₀) (T : Top hd.view_39 Lz mean mg mb h₀) (hk : cs.kind = .function) (hdp : dp + 12 < recursionLimit) (hun : un + 90 < cLine)
    {n : Int} {tn tw : Tok} (hn : 0 ≤ n) (hret : RetK s Q fun t => .bytes (lenA n 3) t) :
    wpAny (model Challenge.pw_ez0013_01 w) (ktrTop dp un gd cn cs L a ccd cl outer) (call (.ref 713) [.int n tn, .int 3 tw]) Q E s := by
  refine wpAny_call ?_
  k_dflt (((refine' code_ownX (binds := [(Str.ofString "number", Value.int n tn), (Str.ofString "width", Value.int 3 tw)]) ?k1 ?k2 ?k3 ?k5 ?kA ?kF ?kK ?k6 ?k7 ?k8 ?k9 ?kB ?kD ?_ ?c2 ?c3 ?c4; (case kA => exact rfl); (case kF => exact rfl); (case kK => first | exact rfl | assumption); (case k1 => k_asm); (case k2 => k_asm); (case k3 => k_asm); (case k5 => k_asm); (case k6 => k_is); (case k7 => k_is); (case k8 => ktr_room); (case k9 => first | exact BindsTo.of_eq rfl | exact binds_K (by k_in) rfl (by k_is) rfl rfl rfl); (case kB => exact rfl); (case kD => decide +kernel); (case c2 => exact rfl); (case c3 => exact rfl); (case c4 => exact rfl); k_whole; intro L' h' tk' cells' F' N' Y' B' X' T'; k_cells Y'; (try simp only [List.cons_append, List.nil_append] at N'); (try dsimp only); (try k_lift B'); (try k_fold))))
  k_steps
  all_goals exact hret _ _ _ (Fr.keep (by assumption))
theorem lenS (B : Below A₀ base outer h₀) (F : Fr h₀ L s.heap m) (X : (hd.heap_39 w.params).In h₀) (T : Top hd.view_39 Lz mean mg mb h₀) (hk : cs.kind = .function) (hdp : dp + 12 < recursionLimit) (hun : un + 90 < cLine)
    {n wd : Int} {tn tw : Tok} (hn : 0 ≤ n) (h0 : wd = 0 → n < 256) (hw : 0 ≤ wd) (hw' : wd < 4) (hret : RetK s Q fun t => .bytes (lenA n wd.toNat) t) :
    wpAny (model Challenge.pw_ez0013_01 w) (ktrTop dp un gd cn cs L a ccd cl outer) (call (.ref 713) [.int n tn, .int wd tw]) Q E s := by
  have hc : wd = 0 ∨ wd = 1 ∨ wd = 2 ∨ wd = 3 := by omega
  rcases hc with rfl | rfl | rfl | rfl
  · exact len0 B F X T hk hdp hun hn (h0 rfl) hret
  · exact len1 B F X T hk hdp hun hn hret
  · exact len2 B F X T hk hdp hun hn hret
  · exact len3 B F X T hk hdp hun hn hret
end
end Mine

end
section

open PySem PySem.W PySem.Calls PyProof.Rows
namespace Mine
set_option maxRecDepth 100000
local macro_rules | `(tactic| cell_enter) => `(tactic| (refine' code_own ?k1 ?k2 ?k3 ?k5 ?kA ?kF ?kK ?k6 ?k7 ?k8 ?k9 ?kB ?_ ?c2 ?c3 ?c4 ?c5; (case kA => exact rfl); (case kF => exact rfl); (case kK => first | exact rfl | assumption); (case k1 => k_asm); (case k2 => k_asm); (case k3 => k_asm); (case k5 => k_asm); (case k6 => k_is); (case k7 => k_is); (case k8 => ktr_room); (case k9 => first | exact BindsTo.of_eq rfl | exact binds_K (by k_in) rfl (by k_is) rfl rfl rfl); (case c5 => decide); (case kB => exact locs rfl); (case c2 => exact rfl); (case c3 => exact rfl); (case c4 => exact rfl); k_whole; intro L' h' F' N' B' X' T'; (try dsimp only); (try k_lift B'); (try k_fold)))
local macro_rules | `(tactic| walk_at "call type:bytes") => `(tactic| ((with_reducible show wpAny _ _ (call (Value.type "bytes") [Value.bytes _ _]) _ _ _); (refine bytes_of_bytes ?_)))
local macro_rules | `(tactic| k_room) => `(tactic| ktr_room)
local macro_rules | `(tactic| walk_at "call builtin:len") => `(tactic| ((with_reducible show wpAny _ _ (call (Value.builtin "len") [Value.bytes _ _]) _ _ _); (refine len_bytes_at (by assumption) (by omega) ?_); intro _ _))
local macro_rules | `(tactic| walk_at "truthy bytes") => `(tactic| ((with_reducible show wpAny _ _ (truthy (Value.bytes _ _)) _ _ _); (refine truthy_bytes_at (by assumption) (by omega) ?_); intro _))
local macro_rules | `(tactic| walk_at "subscriptTail") => `(tactic| ((with_reducible show wpAny _ _ (subscriptTail _ (Expr.Slice _ _ none _) (Value.bytes _ _) (Value.ref _)) _ _ _); (with_reducible rename Fr _ _ _ _ => F'); (with_reducible rename News _ _ _ _ => N'); (refine slice_B (s := ⟨_, _, _, _, _⟩) F' N' (by constructor) (by constructor) (by omega) ?_); intro h' t' k' c' F' N' hS' hZ'; (dsimp only [Option.elim] at hS'); (dsimp only [Option.elim] at hZ'); (try simp only [List.drop_zero, Nat.sub_zero] at hS'); (try simp only [Nat.sub_zero, clipAt_nat] at hZ'); (try k_sweep)))
local macro_rules | `(tactic| walk_at "binaryOp Mult bytes int") => `(tactic| ((with_reducible show wpAny _ _ (binaryOp Operator.Mult (Value.bytes _ _) (Value.int _ _)) _ _ _); (refine mul_B (by omega) ?n0 ?n1 ?_; (case n0 => first | omega | (simp only [Int.fdiv_eq_ediv_of_nonneg _ (by decide : (0 : Int) ≤ 8)]; omega)); (case n1 => first | omega | (simp only [Int.fdiv_eq_ediv_of_nonneg _ (by decide : (0 : Int) ≤ 8)]; omega))); intro t' k' c' hS' hZ'; (try simp only [Int.fdiv_eq_ediv_of_nonneg _ (by decide : (0 : Int) ≤ 8)] at hZ')))
local macro_rules | `(tactic| walk_at "binaryOp Add bytes bytes") => `(tactic| ((with_reducible show wpAny _ _ (binaryOp Operator.Add (Value.bytes _ _) (Value.bytes _ _)) _ _ _); (refine add_B (by omega) ?_); intro t' k' c' hS' hZ'))
local macro_rules | `(tactic| walk_at "call builtin:len") => `(tactic| ((with_reducible show wpAny _ _ (call (Value.builtin "len") [Value.bytes _ _]) _ _ _); first | ((refine len_bytes_at (by assumption) (by omega) ?_); intro _ _) | ((refine len_B (by omega) ?_); intro _ _)))
local macro_rules | `(tactic| walk_at "call ref") => `(tactic| ((with_reducible show wpAny _ _ (call (Value.ref _) [Value.bytes _ _, Value.str _ _]) _ _ _); k_dflt (refine call_fb_big (by k_asm) (by k_mem) (by omega) ?_); intro _ _))
local macro_rules | `(tactic| walk_at "call type:type") => `(tactic| ((with_reducible show wpAny _ _ (call (Value.type "type") [Value.bytes _ _]) _ _ _); refine call_type_of (Tx := "bytes") (PySem.W.typeIs_bytes _ _ _) (by decide +kernel) ?_))
local macro_rules | `(tactic| walk_at "exec Raise some none") => `(tactic| ((with_reducible show wpAny _ _ (exec (Stmt.Raise (some (Expr.Call (Expr.Name _ _) (_ :: _) [] _)) none _) _) _ _ _); k_dflt (first
  | (refine' Raise_own2 ?F ?g ?O PySem.F.excBase_Exception ?n PySem.F.excBase_ValueError ?h ?_ ?a ?b ?c ?d ?e; (case F => k_asm); (case g => exact TopRead.g (by k_asm)); (case O => exact own_of_in (by k_asm) (by k_asm) (by k_is) (by k_exc)); (case n => rfl); (case h => first | rfl | assumption); (case a => rfl); (case b => rfl); (case c => rfl); (case d => rfl); (case e => decide); k_whole)
  | (refine' Raise_own2 ?F ?g ?O PySem.F.excBase_Exception ?n PySem.F.excBase_TypeError ?h ?_ ?a ?b ?c ?d ?e; (case F => k_asm); (case g => exact TopRead.g (by k_asm)); (case O => exact own_of_in (by k_asm) (by k_asm) (by k_is) (by k_exc)); (case n => rfl); (case h => first | rfl | assumption); (case a => rfl); (case b => rfl); (case c => rfl); (case d => rfl); (case e => decide); k_whole))))
local macro_rules | `(tactic| walk_at "getMethod type:int") => `(tactic| (with_reducible (refine' fast_fb ?kfbF ?kfbN ?kfbX ?_; (case kfbF => k_asm); (case kfbN => k_asm); (case kfbX => k_asm); k_whole); intro x' h' F' N' l1; (try k_lt l1); (try k_sweep)))
local macro_rules | `(tactic| walk_at "eval Name") => `(tactic| (first
  | ((name_kind "local"); (with_reducible refine' fastL ?xF ?xl ?xv ?xk ?xd ?_); (case xl => decide +kernel); (case xF => k_asm); (case xk => first | exact rfl | assumption); (case xd => kernel_rfl); (case xv => k_dflt (exact rfl)); k_whole)
  | ((name_kind "globalImplicit"); (with_reducible refine' fastG ?xF ?xl ?xX ?xT ?xe ?xk ?xd ?_); (case xl => decide +kernel); (case xF => k_asm); (case xX => k_asm); (case xT => k_asm); (case xe => k_dflt k_is); (case xk => first | exact rfl | assumption); (case xd => kernel_rfl); k_whole)
  | ((name_kind "globalImplicit"); name_is_builtin; (with_reducible refine' fastB ?xF ?xl ?xX ?xT ?xe ?xv ?xn ?xk ?xd ?_); (case xl => kernel_rfl); (case xF => k_asm); (case xX => k_asm); (case xT => k_asm); (case xe => k_dflt k_is); (case xv => k_dflt (first | boot_fast | boot_by_name)); (case xn => decide); (case xk => first | exact rfl | assumption); (case xd => kernel_rfl); k_whole)
  | ((name_kind "local"); (with_reducible refine' fastXL ?xF ?xl ?xv ?xk ?xd ?_); (case xl => decide +kernel); (case xF => k_asm); (case xk => first | exact rfl | assumption); (case xd => kernel_rfl); (case xv => k_dflt (exact rfl)); k_whole)
  | ((name_kind "cell"); (with_reducible refine' fastXC ?xN ?xl ?xc ?xm ?xo ?xk ?xd ?_); (case xl => decide +kernel); (case xN => k_asm); (case xc => k_dflt (exact rfl)); (case xm => k_dflt k_mem); (case xo => k_dflt k_asm); (case xk => first | exact rfl | assumption); (case xd => kernel_rfl); k_whole)
  | ((name_kind "globalImplicit"); (with_reducible refine' fastXG ?xF ?xl ?xX ?xT ?xe ?xk ?xd ?_); (case xl => decide +kernel); (case xF => k_asm); (case xX => k_asm); (case xT => k_asm); (case xe => k_dflt k_is); (case xk => first | exact rfl | assumption); (case xd => kernel_rfl); k_whole)
  | ((name_kind "globalImplicit"); name_is_builtin; (with_reducible refine' fastXB ?xF ?xl ?xX ?xT ?xe ?xv ?xn ?xk ?xd ?_); (case xl => kernel_rfl); (case xF => k_asm); (case xX => k_asm); (case xT => k_asm); (case xe => k_dflt k_is); (case xv => k_dflt (first | boot_fast | boot_by_name)); (case xn => decide); (case xk => first | exact rfl | assumption); (case xd => kernel_rfl); k_whole)
  | ((name_kind "local"); (with_reducible refine' fastYL ?xF ?xl ?xv ?xk ?xd ?_); (case xl => decide +kernel); (case xF => k_asm); (case xk => first | exact rfl | assumption); (case xd => kernel_rfl); (case xv => k_dflt (exact rfl)); k_whole)
  | ((name_kind "cell"); (with_reducible refine' fastYC ?xN ?xl ?xc ?xm ?xo ?xk ?xd ?_); (case xl => decide +kernel); (case xN => k_asm); (case xc => k_dflt (exact rfl)); (case xm => k_dflt k_mem); (case xo => k_dflt k_asm); (case xk => first | exact rfl | assumption); (case xd => kernel_rfl); k_whole)
  | ((name_kind "globalImplicit"); (with_reducible refine' fastYG ?xF ?xl ?xX ?xT ?xe ?xk ?xd ?_); (case xl => decide +kernel); (case xF => k_asm); (case xX => k_asm); (case xT => k_asm); (case xe => k_dflt k_is); (case xk => first | exact rfl | assumption); (case xd => kernel_rfl); k_whole)
  | ((name_kind "globalImplicit"); name_is_builtin; (with_reducible refine' fastYB ?xF ?xl ?xX ?xT ?xe ?xv ?xn ?xk ?xd ?_); (case xl => kernel_rfl); (case xF => k_asm); (case xX => k_asm); (case xT => k_asm); (case xe => k_dflt k_is); (case xv => k_dflt (first | boot_fast | boot_by_name)); (case xn => decide); (case xk => first | exact rfl | assumption); (case xd => kernel_rfl); k_whole)
  | ((name_kind "local"); (with_reducible refine' fastCL ?xN ?xl ?xm ?xo ?xv ?xk ?xd ?_); (case xl => decide +kernel); (case xN => k_asm); (case xm => k_dflt k_mem); (case xo => assumption); (case xv => assumption); (case xk => exact rfl); (case xd => kernel_rfl); k_whole)
  | ((name_kind "free"); (with_reducible refine' fastCF ?xN ?xl ?xe ?xs ?xc ?xm ?xo ?xk ?xd ?_); (case xl => decide +kernel); (case xe => kernel_rfl); (case xs => kernel_rfl); (case xN => k_asm); (case xc => k_dflt (exact rfl)); (case xm => k_dflt k_mem); (case xo => k_dflt k_asm); (case xk => exact rfl); (case xd => kernel_rfl); k_whole)
  | ((name_kind "free"); (with_reducible refine' fastCY ?xN ?xl ?xe ?xs ?xc ?xm ?xo ?xk ?xd ?_); (case xl => decide +kernel); (case xe => kernel_rfl); (case xs => kernel_rfl); (case xN => k_asm); (case xc => k_dflt (exact rfl)); (case xm => k_dflt k_mem); (case xo => k_dflt k_asm); (case xk => exact rfl); (case xd => kernel_rfl); k_whole)
  | ((name_kind "globalImplicit"); (with_reducible refine' fastCG ?xF ?xl ?xX ?xT ?xe ?xg ?xk ?xd ?_); (case xl => decide +kernel); (case xF => k_asm); (case xX => k_asm); (case xT => k_asm); (case xe => k_dflt k_is); (case xg => k_dflt (exact rfl)); (case xk => exact rfl); (case xd => kernel_rfl); k_whole)
  | ((name_kind "globalImplicit"); name_is_builtin; (with_reducible refine' fastCB ?xF ?xl ?xX ?xT ?xe ?xv ?xn ?xg ?xb ?xk ?xd ?_); (case xl => kernel_rfl); (case xF => k_asm); (case xX => k_asm); (case xT => k_asm); (case xe => k_dflt k_is); (case xv => k_dflt (first | boot_fast | boot_by_name)); (case xn => decide); (case xg => k_dflt (exact rfl)); (case xb => k_dflt (exact rfl)); (case xk => exact rfl); (case xd => kernel_rfl); k_whole)))
local macro_rules | `(tactic| walk_at "call ref") => `(tactic| ((with_reducible show wpAny _ _ (call (Value.ref 66) _) _ _ _); k_dflt (first
  | (refine' bfo1 ?B ?F ?X ?T ?hk ?hd ?hu ?_)
  | (refine' bfo2 ?B ?F ?X ?T ?hk ?hd ?hu ?hz ?_; (case hz => assumption))); (case B => k_asm); (case F => k_asm); (case X => k_asm); (case T => k_asm); (case hk => first | exact rfl | assumption); (case hd => ktr_room); (case hu => ktr_units); (intro h9 t9 k9 hk9); (have F9 := Fr.keeps (by k_asm) hk9); (have N9 := News.grown (by k_asm) hk9); clear hk9; (try k_sweep)))
local macro_rules | `(tactic| walk_at "binaryOp FloorDiv int int") => `(tactic| ((with_reducible show wpAny _ _ (binaryOp Operator.FloorDiv (Value.int _ _) (Value.int (256 ^ _) _)) _ _ _); (refine floordiv_int (p256_ne _) ?_ (Or.inl (np256 (by omega))))))
local macro_rules | `(tactic| walk_at "callWith builtin:int.to_bytes") => `(tactic| ((with_reducible show wpAny _ _ (callWith _ (Value.builtin _) _ _ (backToKw _ _)) _ _ _); k_dflt (refine callWith_little (P := fun _ => True) keeper_builtin ?_)))
local macro_rules | `(tactic| walk_at "callWith ref") => `(tactic| ((with_reducible show wpAny _ _ (callWith _ (Value.ref _) _ _ (backToKw _ _)) _ _ _); k_dflt (refine callWith_little (P := KFB.StandsAt _) keeper_bound ?_)))
local macro_rules | `(tactic| walk_at "call builtin:int.to_bytes") => `(tactic| ((with_reducible show wpAny _ _ (call (Value.builtin _) _ (kwLittle _)) _ _ _); k_dflt (first | (refine tb_low (k := 2) ?h0 ?h1 (by decide) ?_; (case h0 => omega); (case h1 => omega)) | (refine tb_low (k := 4) ?h0 ?h1 (by decide) ?_; (case h0 => omega); (case h1 => omega)) | (refine tb_low (k := 8) ?h0 ?h1 (by decide) ?_; (case h0 => omega); (case h1 => omega))); intro t8 k8))
local macro_rules | `(tactic| walk_at "call ref") => `(tactic| ((with_reducible show wpAny _ _ (call (Value.ref _) _ (kwLittle _)) _ _ _); k_dflt (refine call_fb_little (by k_asm) (by k_mem) (by omega) ?_); intro _ _))
local macro_rules | `(tactic| walk_at "call builtin:len") => `(tactic| ((with_reducible show wpAny _ _ (call (Value.builtin "len") [Value.ref _]) _ _ _); k_dflt (refine len_baK (by k_asm) (by k_mem) (by omega) ?_); intro _ _))
local macro_rules | `(tactic| walk_at "call type:bytes") => `(tactic| ((with_reducible show wpAny _ _ (call (Value.type "bytes") [Value.ref _]) _ _ _); k_dflt (refine bytes_baK (by k_asm) (by k_mem) (by omega) ?_); intro _ _))
local macro_rules | `(tactic| walk_at "subscriptTail") => `(tactic| ((with_reducible show wpAny _ _ (subscriptTail _ (Expr.Slice _ _ none _) (Value.ref _) (Value.ref _)) _ _ _); (with_reducible rename Fr _ _ _ _ => F'); (with_reducible rename News _ _ _ _ => N'); k_dflt (refine cut_K (s := ⟨_, _, _, _, _⟩) F' N' (by k_mem) (by omega) (by omega) (by omega) (by omega) ?_); intro r' h' c' F' N' l1 hS' hZ'; (try k_lt l1); (try k_sweep)))
local macro_rules | `(tactic| walk_at "subscriptTail") => `(tactic| ((with_reducible show wpAny _ _ (subscriptTail _ (Expr.Constant (Const.int 0) _ _) (Value.bytes _ _) (Value.int _ _)) _ _ _); k_dflt (refine item0_at (by assumption) (by omega) (by omega) (by omega) (by omega) (by assumption) ?_); intro _))
local macro_rules | `(tactic| walk_at "call ref") => `(tactic| ((with_reducible show wpAny _ _ (call (Value.ref _) _ (kwLittle _)) _ _ _); k_dflt (first | refine fbl_at (kk := 2) (by k_asm) (by k_mem) (by assumption) (by omega) (by omega) (by assumption) (by omega) (by omega) (by omega) ?_ | refine fbl_at (kk := 4) (by k_asm) (by k_mem) (by assumption) (by omega) (by omega) (by assumption) (by omega) (by omega) (by omega) ?_ | refine fbl_at (kk := 8) (by k_asm) (by k_mem) (by assumption) (by omega) (by omega) (by assumption) (by omega) (by omega) (by omega) ?_); intro _ _))
local macro_rules | `(tactic| walk_at "truthy bytes") => `(tactic| ((with_reducible show wpAny _ _ (truthy (Value.bytes #[] _)) _ _ _); (refine empty_truthy ?_); intro _))
local macro_rules | `(tactic| k_enter) => `(tactic| ((fail_if_success k_inElt); (refine' code_def ?k1 ?k2 ?k3 ?k4 ?k5 ?kA ?kF ?kK ?k6 ?k7 ?k8 ?k9 ?kB ?_ ?c2 ?c3 ?c4 ?c5; (case kA => exact rfl); (case kF => exact rfl); (case kK => first | exact rfl | assumption); (case k1 => k_asm); (case k2 => k_asm); (case k3 => k_asm); (case k4 => k_asm); (case k5 => k_asm); (case k6 => k_is); (case k7 => k_is); (case k8 => k_room); (case k9 => refine' binds_as ?kb1 ?kb2; (case kb1 => first | exact BindsTo.of_eq rfl | exact binds_K (by k_in) rfl (by k_is) rfl rfl rfl); (case kb2 => (conv => arg 1; whnf); (repeat (apply same_cons; (focus ((conv => arg 1; arg 1; whnf); (try dsimp only); exact same_rfl)); (focus ((conv => arg 1; arg 1; whnf); (try dsimp only); exact same_rfl)); (conv => arg 1; whnf))); exact same_nil)); (case c5 => decide); (case kB => exact locs rfl); (case c2 => exact rfl); (case c3 => exact rfl); (case c4 => exact rfl); k_whole; intro g' L' h' FG' F' N' B' X' T'; (try dsimp only); (try k_lift B'); (try k_fold))))
local macro_rules | `(tactic| walk_at "ite") => `(tactic| (k_closed; with_reducible (first | (refine' iteBT ?hIte ?_; (case hIte => decide +kernel)) | (refine' iteBF ?hIte ?_; (case hIte => decide +kernel)))))
local macro_rules | `(tactic| walk_at "ite") => `(tactic| with_reducible (first | refine iteTT ?_ | refine iteFT ?_ | refine iteNeS ?_ | refine iteEqS ?_))
section
variable {w : World} {mean : ExcName → Option Value} {mg mb : Str → Option Value} {dp un : Nat} {gd : Option (List Code)} {cn : Str} {cs : Scope} {a : Addr} {ccd : Value} {cl : List (Str × Addr)} {outer : List Env} {A₀ : Around} {base h₀ : Heap} {L : Addr} {m : Str → Option Value} {s : Shared} {Q E : Value → Shared → Prop}
set_option maxHeartbeats 1500000 in
theorem wr_neg (B : Below A₀ base outer h₀) (F : Fr h₀ L s.heap m) (X : (hd.heap_39 w.params).In h₀) (T : Top hd.view_39 Lz mean mg mb h₀) (XB : (hd.heap_39 w.params).In base) (TB : Top hd.view_39 Lz mean mg mb base) (D : KtsDicts (fsOf outer) h₀) (hk : cs.kind = .function) (hdp : dp + 12 < recursionLimit) (hun : un + 90 < cLine)
    {tn : Tok} (hret : RetT s (L :: fsOf outer) Q fun t => .str (Str.ofString "refused") t) :
    wpAny (model Challenge.pw_ez0013_01 w) (ktrTop dp un gd cn cs L a ccd cl outer) (call (.ref 734) [.int (-1) tn]) Q E s := by
  refine fill (Q := PySem.Challenge.rw_ez0013_01 = PySem.Challenge.rw_ez0013_01 ∧ hd.heap_39 = hd.heap_39) ?_
  k_fill
  refine ⟨⟨rfl, rfl⟩, ?_⟩
  have D1 := own_dictsX (cn := cn) (cs := cs) (a := a) (ccd := ccd) (cl := cl) F D
  refine wpAny_call ?_
  k_dflt (((refine' code_own (binds := [(Str.ofString "number", Value.int (-1) tn)]) ?k1 ?k2 ?k3 ?k5 ?kA ?kF ?kK ?k6 ?k7 ?k8 ?k9 ?kB ?_ ?c2 ?c3 ?c4 ?c5; (case kA => exact rfl); (case kF => exact rfl); (case kK => first | exact rfl | assumption); (case k1 => k_asm); (case k2 => k_asm); (case k3 => k_asm); (case k5 => k_asm); (case k6 => k_is); (case k7 => k_is); (case k8 => ktr_room); (case k9 => first | exact BindsTo.of_eq rfl | exact binds_K (by k_in) rfl (by k_is) rfl rfl rfl); (case c5 => decide); (case kB => exact locs rfl); (case c2 => exact rfl); (case c3 => exact rfl); (case c4 => exact rfl); k_whole; intro L' h' F' N' B' X' T'; (try dsimp only); (try k_lift B'); (try k_fold))))
  k_steps
  all_goals exact hret _ _ _ (Back.of_turn (by assumption) (by assumption))
set_option maxHeartbeats 1500000 in
theorem wr_big (B : Below A₀ base outer h₀) (F : Fr h₀ L s.heap m) (X : (hd.heap_39 w.params).In h₀) (T : Top hd.view_39 Lz mean mg mb h₀) (XB : (hd.heap_39 w.params).In base) (TB : Top hd.view_39 Lz mean mg mb base) (D : KtsDicts (fsOf outer) h₀) (hk : cs.kind = .function) (hdp : dp + 12 < recursionLimit) (hun : un + 90 < cLine)
    {tn : Tok} (hret : RetT s (L :: fsOf outer) Q fun t => .str (Str.ofString "refused") t) :
    wpAny (model Challenge.pw_ez0013_01 w) (ktrTop dp un gd cn cs L a ccd cl outer) (call (.ref 734) [.int 18446744073709551616 tn]) Q E s := by
  have D1 := own_dictsX (cn := cn) (cs := cs) (a := a) (ccd := ccd) (cl := cl) F D
  refine wpAny_call ?_
  k_dflt (((refine' code_own (binds := [(Str.ofString "number", Value.int 18446744073709551616 tn)]) ?k1 ?k2 ?k3 ?k5 ?kA ?kF ?kK ?k6 ?k7 ?k8 ?k9 ?kB ?_ ?c2 ?c3 ?c4 ?c5; (case kA => exact rfl); (case kF => exact rfl); (case kK => first | exact rfl | assumption); (case k1 => k_asm); (case k2 => k_asm); (case k3 => k_asm); (case k5 => k_asm); (case k6 => k_is); (case k7 => k_is); (case k8 => ktr_room); (case k9 => first | exact BindsTo.of_eq rfl | exact binds_K (by k_in) rfl (by k_is) rfl rfl rfl); (case c5 => decide); (case kB => exact locs rfl); (case c2 => exact rfl); (case c3 => exact rfl); (case c4 => exact rfl); k_whole; intro L' h' F' N' B' X' T'; (try dsimp only); (try k_lift B'); (try k_fold))))
  k_steps
  all_goals exact hret _ _ _ (Back.of_turn (by assumption) (by assumption))
set_option maxHeartbeats 1500000 in
theorem wr_kind (B : Below A₀ base outer h₀) (F : Fr h₀ L s.heap m) (X : (hd.heap_39 w.params).In h₀) (T : Top hd.view_39 Lz mean mg mb h₀) (XB : (hd.heap_39 w.params).In base) (TB : Top hd.view_39 Lz mean mg mb base) (D : KtsDicts (fsOf outer) h₀) (hk : cs.kind = .function) (hdp : dp + 12 < recursionLimit) (hun : un + 90 < cLine)
     (hret : RetT s (L :: fsOf outer) Q fun t => .str (Str.ofString "kind") t) :
    wpAny (model Challenge.pw_ez0013_01 w) (ktrTop dp un gd cn cs L a ccd cl outer) (call (.ref 734) [.bool false]) Q E s := by
  have D1 := own_dictsX (cn := cn) (cs := cs) (a := a) (ccd := ccd) (cl := cl) F D
  refine wpAny_call ?_
  k_dflt (((refine' code_own (binds := [(Str.ofString "number", Value.bool false)]) ?k1 ?k2 ?k3 ?k5 ?kA ?kF ?kK ?k6 ?k7 ?k8 ?k9 ?kB ?_ ?c2 ?c3 ?c4 ?c5; (case kA => exact rfl); (case kF => exact rfl); (case kK => first | exact rfl | assumption); (case k1 => k_asm); (case k2 => k_asm); (case k3 => k_asm); (case k5 => k_asm); (case k6 => k_is); (case k7 => k_is); (case k8 => ktr_room); (case k9 => first | exact BindsTo.of_eq rfl | exact binds_K (by k_in) rfl (by k_is) rfl rfl rfl); (case c5 => decide); (case kB => exact locs rfl); (case c2 => exact rfl); (case c3 => exact rfl); (case c4 => exact rfl); k_whole; intro L' h' F' N' B' X' T'; (try dsimp only); (try k_lift B'); (try k_fold))))
  k_steps
  all_goals exact hret _ _ _ (Back.of_turn (by assumption) (by assumption))
set_option maxHeartbeats 1500000 in
theorem wr0 (B : Below A₀ base outer h₀) (F : Fr h₀ L s.heap m) (X : (hd.heap_39 w.params).In h₀) (T : Top hd.view_39 Lz mean mg mb h₀) (XB : (hd.heap_39 w.params).In base) (TB : Top hd.view_39 Lz mean mg mb base) (D : KtsDicts (fsOf outer) h₀) (hk : cs.kind = .function) (hdp : dp + 12 < recursionLimit) (hun : un + 90 < cLine)
    {n : Int} {tn : Tok} (hn : 0 ≤ n) (hn' : n < 253) (hret : RetT s (L :: fsOf outer) Q fun t => .bytes (lenA n 0) t) :
    wpAny (model Challenge.pw_ez0013_01 w) (ktrTop dp un gd cn cs L a ccd cl outer) (call (.ref 734) [.int n tn]) Q E s := by
  have D1 := own_dictsX (cn := cn) (cs := cs) (a := a) (ccd := ccd) (cl := cl) F D
  refine wpAny_call ?_
  k_dflt (((refine' code_own (binds := [(Str.ofString "number", Value.int n tn)]) ?k1 ?k2 ?k3 ?k5 ?kA ?kF ?kK ?k6 ?k7 ?k8 ?k9 ?kB ?_ ?c2 ?c3 ?c4 ?c5; (case kA => exact rfl); (case kF => exact rfl); (case kK => first | exact rfl | assumption); (case k1 => k_asm); (case k2 => k_asm); (case k3 => k_asm); (case k5 => k_asm); (case k6 => k_is); (case k7 => k_is); (case k8 => ktr_room); (case k9 => first | exact BindsTo.of_eq rfl | exact binds_K (by k_in) rfl (by k_is) rfl rfl rfl); (case c5 => decide); (case kB => exact locs rfl); (case c2 => exact rfl); (case c3 => exact rfl); (case c4 => exact rfl); k_whole; intro L' h' F' N' B' X' T'; (try dsimp only); (try k_lift B'); (try k_fold))))
  k_steps
  all_goals first | trivial | exact hret _ _ _ (Back.of_keep (by assumption)) | exact cast_bytes (cons_app _ _) (hret _ _ _ (Back.of_keep (by assumption)))
set_option maxHeartbeats 1500000 in
theorem wr1 (B : Below A₀ base outer h₀) (F : Fr h₀ L s.heap m) (X : (hd.heap_39 w.params).In h₀) (T : Top hd.view_39 Lz mean mg mb h₀) (XB : (hd.heap_39 w.params).In base) (TB : Top hd.view_39 Lz mean mg mb base) (D : KtsDicts (fsOf outer) h₀) (hk : cs.kind = .function) (hdp : dp + 12 < recursionLimit) (hun : un + 90 < cLine)
    {n : Int} {tn : Tok} (hn : 253 ≤ n) (hn' : n < 65536) (hret : RetT s (L :: fsOf outer) Q fun t => .bytes (lenA n 1) t) :
    wpAny (model Challenge.pw_ez0013_01 w) (ktrTop dp un gd cn cs L a ccd cl outer) (call (.ref 734) [.int n tn]) Q E s := by
  have D1 := own_dictsX (cn := cn) (cs := cs) (a := a) (ccd := ccd) (cl := cl) F D
  refine wpAny_call ?_
  k_dflt (((refine' code_own (binds := [(Str.ofString "number", Value.int n tn)]) ?k1 ?k2 ?k3 ?k5 ?kA ?kF ?kK ?k6 ?k7 ?k8 ?k9 ?kB ?_ ?c2 ?c3 ?c4 ?c5; (case kA => exact rfl); (case kF => exact rfl); (case kK => first | exact rfl | assumption); (case k1 => k_asm); (case k2 => k_asm); (case k3 => k_asm); (case k5 => k_asm); (case k6 => k_is); (case k7 => k_is); (case k8 => ktr_room); (case k9 => first | exact BindsTo.of_eq rfl | exact binds_K (by k_in) rfl (by k_is) rfl rfl rfl); (case c5 => decide); (case kB => exact locs rfl); (case c2 => exact rfl); (case c3 => exact rfl); (case c4 => exact rfl); k_whole; intro L' h' F' N' B' X' T'; (try dsimp only); (try k_lift B'); (try k_fold))))
  k_steps
  all_goals first | trivial | exact hret _ _ _ (Back.of_keep (by assumption)) | exact cast_bytes (cons_app _ _) (hret _ _ _ (Back.of_keep (by assumption)))
set_option maxHeartbeats 1500000 in
theorem wr2 (B : Below A₀ base outer h₀) (F : Fr h₀ L s.heap m) (X : (hd.heap_39 w.params).In h₀) (T : Top hd.view_39 Lz mean mg mb h₀) (XB : (hd.heap_39 w.params).In base) (TB : Top hd.view_39 Lz mean mg mb base) (D : KtsDicts (fsOf outer) h₀) (hk : cs.kind = .function) (hdp : dp + 12 < recursionLimit) (hun : un + 90 < cLine)
    {n : Int} {tn : Tok} (hn : 65536 ≤ n) (hn' : n < 4294967296) (hret : RetT s (L :: fsOf outer) Q fun t => .bytes (lenA n 2) t) :
    wpAny (model Challenge.pw_ez0013_01 w) (ktrTop dp un gd cn cs L a ccd cl outer) (call (.ref 734) [.int n tn]) Q E s := by
  have D1 := own_dictsX (cn := cn) (cs := cs) (a := a) (ccd := ccd) (cl := cl) F D
  refine wpAny_call ?_
  k_dflt (((refine' code_own (binds := [(Str.ofString "number", Value.int n tn)]) ?k1 ?k2 ?k3 ?k5 ?kA ?kF ?kK ?k6 ?k7 ?k8 ?k9 ?kB ?_ ?c2 ?c3 ?c4 ?c5; (case kA => exact rfl); (case kF => exact rfl); (case kK => first | exact rfl | assumption); (case k1 => k_asm); (case k2 => k_asm); (case k3 => k_asm); (case k5 => k_asm); (case k6 => k_is); (case k7 => k_is); (case k8 => ktr_room); (case k9 => first | exact BindsTo.of_eq rfl | exact binds_K (by k_in) rfl (by k_is) rfl rfl rfl); (case c5 => decide); (case kB => exact locs rfl); (case c2 => exact rfl); (case c3 => exact rfl); (case c4 => exact rfl); k_whole; intro L' h' F' N' B' X' T'; (try dsimp only); (try k_lift B'); (try k_fold))))
  k_steps
  all_goals first | trivial | exact hret _ _ _ (Back.of_keep (by assumption)) | exact cast_bytes (cons_app _ _) (hret _ _ _ (Back.of_keep (by assumption)))
set_option maxHeartbeats 1500000 in
theorem wr3 (B : Below A₀ base outer h₀) (F : Fr h₀ L s.heap m) (X : (hd.heap_39 w.params).In h₀) (T : Top hd.view_39 Lz mean mg mb h₀) (XB : (hd.heap_39 w.params).In base) (TB : Top hd.view_39 Lz mean mg mb base) (D : KtsDicts (fsOf outer) h₀) (hk : cs.kind = .function) (hdp : dp + 12 < recursionLimit) (hun : un + 90 < cLine)
    {n : Int} {tn : Tok} (hn : 4294967296 ≤ n) (hn' : n < 18446744073709551616) (hret : RetT s (L :: fsOf outer) Q fun t => .bytes (lenA n 3) t) :
    wpAny (model Challenge.pw_ez0013_01 w) (ktrTop dp un gd cn cs L a ccd cl outer) (call (.ref 734) [.int n tn]) Q E s := by
  have D1 := own_dictsX (cn := cn) (cs := cs) (a := a) (ccd := ccd) (cl := cl) F D
  refine wpAny_call ?_
  k_dflt (((refine' code_own (binds := [(Str.ofString "number", Value.int n tn)]) ?k1 ?k2 ?k3 ?k5 ?kA ?kF ?kK ?k6 ?k7 ?k8 ?k9 ?kB ?_ ?c2 ?c3 ?c4 ?c5; (case kA => exact rfl); (case kF => exact rfl); (case kK => first | exact rfl | assumption); (case k1 => k_asm); (case k2 => k_asm); (case k3 => k_asm); (case k5 => k_asm); (case k6 => k_is); (case k7 => k_is); (case k8 => ktr_room); (case k9 => first | exact BindsTo.of_eq rfl | exact binds_K (by k_in) rfl (by k_is) rfl rfl rfl); (case c5 => decide); (case kB => exact locs rfl); (case c2 => exact rfl); (case c3 => exact rfl); (case c4 => exact rfl); k_whole; intro L' h' F' N' B' X' T'; (try dsimp only); (try k_lift B'); (try k_fold))))
  k_steps
  all_goals first | trivial | exact hret _ _ _ (Back.of_keep (by assumption)) | exact cast_bytes (cons_app _ _) (hret _ _ _ (Back.of_keep (by assumption)))
end
end Mine

end
section

open PySem PySem.W PySem.Calls PyProof.Rows
namespace Mine
set_option maxRecDepth 100000
local macro_rules | `(tactic| cell_enter) => `(tactic| (refine' code_own ?k1 ?k2 ?k3 ?k5 ?kA ?kF ?kK ?k6 ?k7 ?k8 ?k9 ?kB ?_ ?c2 ?c3 ?c4 ?c5; (case kA => exact rfl); (case kF => exact rfl); (case kK => first | exact rfl | assumption); (case k1 => k_asm); (case k2 => k_asm); (case k3 => k_asm); (case k5 => k_asm); (case k6 => k_is); (case k7 => k_is); (case k8 => ktr_room); (case k9 => first | exact BindsTo.of_eq rfl | exact binds_K (by k_in) rfl (by k_is) rfl rfl rfl); (case c5 => decide); (case kB => exact locs rfl); (case c2 => exact rfl); (case c3 => exact rfl); (case c4 => exact rfl); k_whole; intro L' h' F' N' B' X' T'; (try dsimp only); (try k_lift B'); (try k_fold)))
local macro_rules | `(tactic| walk_at "call type:bytes") => `(tactic| ((with_reducible show wpAny _ _ (call (Value.type "bytes") [Value.bytes _ _]) _ _ _); (refine bytes_of_bytes ?_)))
local macro_rules | `(tactic| k_room) => `(tactic| ktr_room)
local macro_rules | `(tactic| walk_at "call builtin:len") => `(tactic| ((with_reducible show wpAny _ _ (call (Value.builtin "len") [Value.bytes _ _]) _ _ _); (refine len_bytes_at (by assumption) (by omega) ?_); intro _ _))
local macro_rules | `(tactic| walk_at "truthy bytes") => `(tactic| ((with_reducible show wpAny _ _ (truthy (Value.bytes _ _)) _ _ _); (refine truthy_bytes_at (by assumption) (by omega) ?_); intro _))
local macro_rules | `(tactic| walk_at "subscriptTail") => `(tactic| ((with_reducible show wpAny _ _ (subscriptTail _ (Expr.Slice _ _ none _) (Value.bytes _ _) (Value.ref _)) _ _ _); (with_reducible rename Fr _ _ _ _ => F'); (with_reducible rename News _ _ _ _ => N'); (refine slice_B (s := ⟨_, _, _, _, _⟩) F' N' (by constructor) (by constructor) (by omega) ?_); intro h' t' k' c' F' N' hS' hZ'; (dsimp only [Option.elim] at hS'); (dsimp only [Option.elim] at hZ'); (try simp only [List.drop_zero, Nat.sub_zero] at hS'); (try simp only [Nat.sub_zero, clipAt_nat] at hZ'); (try k_sweep)))
local macro_rules | `(tactic| walk_at "binaryOp Mult bytes int") => `(tactic| ((with_reducible show wpAny _ _ (binaryOp Operator.Mult (Value.bytes _ _) (Value.int _ _)) _ _ _); (refine mul_B (by omega) ?n0 ?n1 ?_; (case n0 => first | omega | (simp only [Int.fdiv_eq_ediv_of_nonneg _ (by decide : (0 : Int) ≤ 8)]; omega)); (case n1 => first | omega | (simp only [Int.fdiv_eq_ediv_of_nonneg _ (by decide : (0 : Int) ≤ 8)]; omega))); intro t' k' c' hS' hZ'; (try simp only [Int.fdiv_eq_ediv_of_nonneg _ (by decide : (0 : Int) ≤ 8)] at hZ')))
local macro_rules | `(tactic| walk_at "binaryOp Add bytes bytes") => `(tactic| ((with_reducible show wpAny _ _ (binaryOp Operator.Add (Value.bytes _ _) (Value.bytes _ _)) _ _ _); (refine add_B (by omega) ?_); intro t' k' c' hS' hZ'))
local macro_rules | `(tactic| walk_at "call builtin:len") => `(tactic| ((with_reducible show wpAny _ _ (call (Value.builtin "len") [Value.bytes _ _]) _ _ _); first | ((refine len_bytes_at (by assumption) (by omega) ?_); intro _ _) | ((refine len_B (by omega) ?_); intro _ _)))
local macro_rules | `(tactic| walk_at "call ref") => `(tactic| ((with_reducible show wpAny _ _ (call (Value.ref _) [Value.bytes _ _, Value.str _ _]) _ _ _); k_dflt (refine call_fb_big (by k_asm) (by k_mem) (by omega) ?_); intro _ _))
local macro_rules | `(tactic| walk_at "call type:type") => `(tactic| ((with_reducible show wpAny _ _ (call (Value.type "type") [Value.bytes _ _]) _ _ _); refine call_type_of (Tx := "bytes") (PySem.W.typeIs_bytes _ _ _) (by decide +kernel) ?_))
local macro_rules | `(tactic| walk_at "exec Raise some none") => `(tactic| ((with_reducible show wpAny _ _ (exec (Stmt.Raise (some (Expr.Call (Expr.Name _ _) (_ :: _) [] _)) none _) _) _ _ _); k_dflt (first
  | (refine' Raise_own2 ?F ?g ?O PySem.F.excBase_Exception ?n PySem.F.excBase_ValueError ?h ?_ ?a ?b ?c ?d ?e; (case F => k_asm); (case g => exact TopRead.g (by k_asm)); (case O => exact own_of_in (by k_asm) (by k_asm) (by k_is) (by k_exc)); (case n => rfl); (case h => first | rfl | assumption); (case a => rfl); (case b => rfl); (case c => rfl); (case d => rfl); (case e => decide); k_whole)
  | (refine' Raise_own2 ?F ?g ?O PySem.F.excBase_Exception ?n PySem.F.excBase_TypeError ?h ?_ ?a ?b ?c ?d ?e; (case F => k_asm); (case g => exact TopRead.g (by k_asm)); (case O => exact own_of_in (by k_asm) (by k_asm) (by k_is) (by k_exc)); (case n => rfl); (case h => first | rfl | assumption); (case a => rfl); (case b => rfl); (case c => rfl); (case d => rfl); (case e => decide); k_whole))))
local macro_rules | `(tactic| walk_at "getMethod type:int") => `(tactic| (with_reducible (refine' fast_fb ?kfbF ?kfbN ?kfbX ?_; (case kfbF => k_asm); (case kfbN => k_asm); (case kfbX => k_asm); k_whole); intro x' h' F' N' l1; (try k_lt l1); (try k_sweep)))
local macro_rules | `(tactic| walk_at "eval Name") => `(tactic| (first
  | ((name_kind "local"); (with_reducible refine' fastL ?xF ?xl ?xv ?xk ?xd ?_); (case xl => decide +kernel); (case xF => k_asm); (case xk => first | exact rfl | assumption); (case xd => kernel_rfl); (case xv => k_dflt (exact rfl)); k_whole)
  | ((name_kind "globalImplicit"); (with_reducible refine' fastG ?xF ?xl ?xX ?xT ?xe ?xk ?xd ?_); (case xl => decide +kernel); (case xF => k_asm); (case xX => k_asm); (case xT => k_asm); (case xe => k_dflt k_is); (case xk => first | exact rfl | assumption); (case xd => kernel_rfl); k_whole)
  | ((name_kind "globalImplicit"); name_is_builtin; (with_reducible refine' fastB ?xF ?xl ?xX ?xT ?xe ?xv ?xn ?xk ?xd ?_); (case xl => kernel_rfl); (case xF => k_asm); (case xX => k_asm); (case xT => k_asm); (case xe => k_dflt k_is); (case xv => k_dflt (first | boot_fast | boot_by_name)); (case xn => decide); (case xk => first | exact rfl | assumption); (case xd => kernel_rfl); k_whole)
  | ((name_kind "local"); (with_reducible refine' fastXL ?xF ?xl ?xv ?xk ?xd ?_); (case xl => decide +kernel); (case xF => k_asm); (case xk => first | exact rfl | assumption); (case xd => kernel_rfl); (case xv => k_dflt (exact rfl)); k_whole)
  | ((name_kind "cell"); (with_reducible refine' fastXC ?xN ?xl ?xc ?xm ?xo ?xk ?xd ?_); (case xl => decide +kernel); (case xN => k_asm); (case xc => k_dflt (exact rfl)); (case xm => k_dflt k_mem); (case xo => k_dflt k_asm); (case xk => first | exact rfl | assumption); (case xd => kernel_rfl); k_whole)
  | ((name_kind "globalImplicit"); (with_reducible refine' fastXG ?xF ?xl ?xX ?xT ?xe ?xk ?xd ?_); (case xl => decide +kernel); (case xF => k_asm); (case xX => k_asm); (case xT => k_asm); (case xe => k_dflt k_is); (case xk => first | exact rfl | assumption); (case xd => kernel_rfl); k_whole)
  | ((name_kind "globalImplicit"); name_is_builtin; (with_reducible refine' fastXB ?xF ?xl ?xX ?xT ?xe ?xv ?xn ?xk ?xd ?_); (case xl => kernel_rfl); (case xF => k_asm); (case xX => k_asm); (case xT => k_asm); (case xe => k_dflt k_is); (case xv => k_dflt (first | boot_fast | boot_by_name)); (case xn => decide); (case xk => first | exact rfl | assumption); (case xd => kernel_rfl); k_whole)
  | ((name_kind "local"); (with_reducible refine' fastYL ?xF ?xl ?xv ?xk ?xd ?_); (case xl => decide +kernel); (case xF => k_asm); (case xk => first | exact rfl | assumption); (case xd => kernel_rfl); (case xv => k_dflt (exact rfl)); k_whole)
  | ((name_kind "cell"); (with_reducible refine' fastYC ?xN ?xl ?xc ?xm ?xo ?xk ?xd ?_); (case xl => decide +kernel); (case xN => k_asm); (case xc => k_dflt (exact rfl)); (case xm => k_dflt k_mem); (case xo => k_dflt k_asm); (case xk => first | exact rfl | assumption); (case xd => kernel_rfl); k_whole)
  | ((name_kind "globalImplicit"); (with_reducible refine' fastYG ?xF ?xl ?xX ?xT ?xe ?xk ?xd ?_); (case xl => decide +kernel); (case xF => k_asm); (case xX => k_asm); (case xT => k_asm); (case xe => k_dflt k_is); (case xk => first | exact rfl | assumption); (case xd => kernel_rfl); k_whole)
  | ((name_kind "globalImplicit"); name_is_builtin; (with_reducible refine' fastYB ?xF ?xl ?xX ?xT ?xe ?xv ?xn ?xk ?xd ?_); (case xl => kernel_rfl); (case xF => k_asm); (case xX => k_asm); (case xT => k_asm); (case xe => k_dflt k_is); (case xv => k_dflt (first | boot_fast | boot_by_name)); (case xn => decide); (case xk => first | exact rfl | assumption); (case xd => kernel_rfl); k_whole)
  | ((name_kind "local"); (with_reducible refine' fastCL ?xN ?xl ?xm ?xo ?xv ?xk ?xd ?_); (case xl => decide +kernel); (case xN => k_asm); (case xm => k_dflt k_mem); (case xo => assumption); (case xv => assumption); (case xk => exact rfl); (case xd => kernel_rfl); k_whole)
  | ((name_kind "free"); (with_reducible refine' fastCF ?xN ?xl ?xe ?xs ?xc ?xm ?xo ?xk ?xd ?_); (case xl => decide +kernel); (case xe => kernel_rfl); (case xs => kernel_rfl); (case xN => k_asm); (case xc => k_dflt (exact rfl)); (case xm => k_dflt k_mem); (case xo => k_dflt k_asm); (case xk => exact rfl); (case xd => kernel_rfl); k_whole)
  | ((name_kind "free"); (with_reducible refine' fastCY ?xN ?xl ?xe ?xs ?xc ?xm ?xo ?xk ?xd ?_); (case xl => decide +kernel); (case xe => kernel_rfl); (case xs => kernel_rfl); (case xN => k_asm); (case xc => k_dflt (exact rfl)); (case xm => k_dflt k_mem); (case xo => k_dflt k_asm); (case xk => exact rfl); (case xd => kernel_rfl); k_whole)
  | ((name_kind "globalImplicit"); (with_reducible refine' fastCG ?xF ?xl ?xX ?xT ?xe ?xg ?xk ?xd ?_); (case xl => decide +kernel); (case xF => k_asm); (case xX => k_asm); (case xT => k_asm); (case xe => k_dflt k_is); (case xg => k_dflt (exact rfl)); (case xk => exact rfl); (case xd => kernel_rfl); k_whole)
  | ((name_kind "globalImplicit"); name_is_builtin; (with_reducible refine' fastCB ?xF ?xl ?xX ?xT ?xe ?xv ?xn ?xg ?xb ?xk ?xd ?_); (case xl => kernel_rfl); (case xF => k_asm); (case xX => k_asm); (case xT => k_asm); (case xe => k_dflt k_is); (case xv => k_dflt (first | boot_fast | boot_by_name)); (case xn => decide); (case xg => k_dflt (exact rfl)); (case xb => k_dflt (exact rfl)); (case xk => exact rfl); (case xd => kernel_rfl); k_whole)))
local macro_rules | `(tactic| walk_at "call ref") => `(tactic| ((with_reducible show wpAny _ _ (call (Value.ref 66) _) _ _ _); k_dflt (first
  | (refine' bfo1 ?B ?F ?X ?T ?hk ?hd ?hu ?_)
  | (refine' bfo2 ?B ?F ?X ?T ?hk ?hd ?hu ?hz ?_; (case hz => assumption))); (case B => k_asm); (case F => k_asm); (case X => k_asm); (case T => k_asm); (case hk => first | exact rfl | assumption); (case hd => ktr_room); (case hu => ktr_units); (intro h9 t9 k9 hk9); (have F9 := Fr.keeps (by k_asm) hk9); (have N9 := News.grown (by k_asm) hk9); clear hk9; (try k_sweep)))
local macro_rules | `(tactic| walk_at "binaryOp FloorDiv int int") => `(tactic| ((with_reducible show wpAny _ _ (binaryOp Operator.FloorDiv (Value.int _ _) (Value.int (256 ^ _) _)) _ _ _); (refine floordiv_int (p256_ne _) ?_ (Or.inl (np256 (by omega))))))
local macro_rules | `(tactic| walk_at "callWith builtin:int.to_bytes") => `(tactic| ((with_reducible show wpAny _ _ (callWith _ (Value.builtin _) _ _ (backToKw _ _)) _ _ _); k_dflt (refine callWith_little (P := fun _ => True) keeper_builtin ?_)))
local macro_rules | `(tactic| walk_at "callWith ref") => `(tactic| ((with_reducible show wpAny _ _ (callWith _ (Value.ref _) _ _ (backToKw _ _)) _ _ _); k_dflt (refine callWith_little (P := KFB.StandsAt _) keeper_bound ?_)))
local macro_rules | `(tactic| walk_at "call builtin:int.to_bytes") => `(tactic| ((with_reducible show wpAny _ _ (call (Value.builtin _) _ (kwLittle _)) _ _ _); k_dflt (first | (refine tb_low (k := 2) ?h0 ?h1 (by decide) ?_; (case h0 => omega); (case h1 => omega)) | (refine tb_low (k := 4) ?h0 ?h1 (by decide) ?_; (case h0 => omega); (case h1 => omega)) | (refine tb_low (k := 8) ?h0 ?h1 (by decide) ?_; (case h0 => omega); (case h1 => omega))); intro t8 k8))
local macro_rules | `(tactic| walk_at "call ref") => `(tactic| ((with_reducible show wpAny _ _ (call (Value.ref _) _ (kwLittle _)) _ _ _); k_dflt (refine call_fb_little (by k_asm) (by k_mem) (by omega) ?_); intro _ _))
local macro_rules | `(tactic| walk_at "call builtin:len") => `(tactic| ((with_reducible show wpAny _ _ (call (Value.builtin "len") [Value.ref _]) _ _ _); k_dflt (refine len_baK (by k_asm) (by k_mem) (by omega) ?_); intro _ _))
local macro_rules | `(tactic| walk_at "call type:bytes") => `(tactic| ((with_reducible show wpAny _ _ (call (Value.type "bytes") [Value.ref _]) _ _ _); k_dflt (refine bytes_baK (by k_asm) (by k_mem) (by omega) ?_); intro _ _))
local macro_rules | `(tactic| walk_at "subscriptTail") => `(tactic| ((with_reducible show wpAny _ _ (subscriptTail _ (Expr.Slice _ _ none _) (Value.ref _) (Value.ref _)) _ _ _); (with_reducible rename Fr _ _ _ _ => F'); (with_reducible rename News _ _ _ _ => N'); k_dflt (refine cut_K (s := ⟨_, _, _, _, _⟩) F' N' (by k_mem) (by omega) (by omega) (by omega) (by omega) ?_); intro r' h' c' F' N' l1 hS' hZ'; (try k_lt l1); (try k_sweep)))
local macro_rules | `(tactic| walk_at "subscriptTail") => `(tactic| ((with_reducible show wpAny _ _ (subscriptTail _ (Expr.Constant (Const.int 0) _ _) (Value.bytes _ _) (Value.int _ _)) _ _ _); k_dflt (refine item0_at (by assumption) (by omega) (by omega) (by omega) (by omega) (by assumption) ?_); intro _))
local macro_rules | `(tactic| walk_at "call ref") => `(tactic| ((with_reducible show wpAny _ _ (call (Value.ref _) _ (kwLittle _)) _ _ _); k_dflt (first | refine fbl_at (kk := 2) (by k_asm) (by k_mem) (by assumption) (by omega) (by omega) (by assumption) (by omega) (by omega) (by omega) ?_ | refine fbl_at (kk := 4) (by k_asm) (by k_mem) (by assumption) (by omega) (by omega) (by assumption) (by omega) (by omega) (by omega) ?_ | refine fbl_at (kk := 8) (by k_asm) (by k_mem) (by assumption) (by omega) (by omega) (by assumption) (by omega) (by omega) (by omega) ?_); intro _ _))
local macro_rules | `(tactic| walk_at "truthy bytes") => `(tactic| ((with_reducible show wpAny _ _ (truthy (Value.bytes #[] _)) _ _ _); (refine empty_truthy ?_); intro _))
local macro_rules | `(tactic| k_enter) => `(tactic| ((fail_if_success k_inElt); (refine' code_def ?k1 ?k2 ?k3 ?k4 ?k5 ?kA ?kF ?kK ?k6 ?k7 ?k8 ?k9 ?kB ?_ ?c2 ?c3 ?c4 ?c5; (case kA => exact rfl); (case kF => exact rfl); (case kK => first | exact rfl | assumption); (case k1 => k_asm); (case k2 => k_asm); (case k3 => k_asm); (case k4 => k_asm); (case k5 => k_asm); (case k6 => k_is); (case k7 => k_is); (case k8 => k_room); (case k9 => refine' binds_as ?kb1 ?kb2; (case kb1 => first | exact BindsTo.of_eq rfl | exact binds_K (by k_in) rfl (by k_is) rfl rfl rfl); (case kb2 => (conv => arg 1; whnf); (repeat (apply same_cons; (focus ((conv => arg 1; arg 1; whnf); (try dsimp only); exact same_rfl)); (focus ((conv => arg 1; arg 1; whnf); (try dsimp only); exact same_rfl)); (conv => arg 1; whnf))); exact same_nil)); (case c5 => decide); (case kB => exact locs rfl); (case c2 => exact rfl); (case c3 => exact rfl); (case c4 => exact rfl); k_whole; intro g' L' h' FG' F' N' B' X' T'; (try dsimp only); (try k_lift B'); (try k_fold))))
local macro_rules | `(tactic| walk_at "ite") => `(tactic| (k_closed; with_reducible (first | (refine' iteBT ?hIte ?_; (case hIte => decide +kernel)) | (refine' iteBF ?hIte ?_; (case hIte => decide +kernel)))))
local macro_rules | `(tactic| walk_at "ite") => `(tactic| with_reducible (first | refine iteTT ?_ | refine iteFT ?_ | refine iteNeS ?_ | refine iteEqS ?_))
section
variable {w : World} {mean : ExcName → Option Value} {mg mb : Str → Option Value} {dp un : Nat} {gd : Option (List Code)} {cn : Str} {cs : Scope} {a : Addr} {ccd : Value} {cl : List (Str × Addr)} {outer : List Env} {A₀ : Around} {base h₀ : Heap} {L : Addr} {m : Str → Option Value} {s : Shared} {Q E : Value → Shared → Prop}
set_option maxHeartbeats 1500000 in
theorem ma_short (B : Below A₀ base outer h₀) (F : Fr h₀ L s.heap m) (X : (hd.heap_39 w.params).In h₀) (T : Top hd.view_39 Lz mean mg mb h₀) (XB : (hd.heap_39 w.params).In base) (TB : Top hd.view_39 Lz mean mg mb base) (D : KtsDicts (fsOf outer) h₀) (hk : cs.kind = .function) (hdp : dp + 12 < recursionLimit) (hun : un + 90 < cLine)
    {d k : Array UInt8} {td tk to : Tok} (hdz : d.size ≤ 14) (hz : (k.size : Int) = 7) (hret : RetT s (L :: fsOf outer) Q fun t => .str (Str.ofString "refused") t) :
    wpAny (model Challenge.pw_ez0013_01 w) (ktrTop dp un gd cn cs L a ccd cl outer) (call (.ref 741) [.bytes d td, .bytes k tk, .int 0 to]) Q E s := by
  refine fill (Q := PySem.Challenge.rw_ez0013_01 = PySem.Challenge.rw_ez0013_01 ∧ hd.heap_39 = hd.heap_39) ?_
  k_fill
  refine ⟨⟨rfl, rfl⟩, ?_⟩
  have D1 := own_dictsX (cn := cn) (cs := cs) (a := a) (ccd := ccd) (cl := cl) F D
  refine wpAny_call ?_
  k_dflt (((refine' code_own (binds := [(Str.ofString "octets", Value.bytes d td), (Str.ofString "key", Value.bytes k tk), (Str.ofString "place", Value.int 0 to)]) ?k1 ?k2 ?k3 ?k5 ?kA ?kF ?kK ?k6 ?k7 ?k8 ?k9 ?kB ?_ ?c2 ?c3 ?c4 ?c5; (case kA => exact rfl); (case kF => exact rfl); (case kK => first | exact rfl | assumption); (case k1 => k_asm); (case k2 => k_asm); (case k3 => k_asm); (case k5 => k_asm); (case k6 => k_is); (case k7 => k_is); (case k8 => ktr_room); (case k9 => first | exact BindsTo.of_eq rfl | exact binds_K (by k_in) rfl (by k_is) rfl rfl rfl); (case c5 => decide); (case kB => exact locs rfl); (case c2 => exact rfl); (case c3 => exact rfl); (case c4 => exact rfl); k_whole; intro L' h' F' N' B' X' T'; (try dsimp only); (try k_lift B'); (try k_fold))))
  k_steps
  all_goals exact hret _ _ _ (Back.of_turn (by assumption) (by assumption))
set_option maxHeartbeats 1500000 in
theorem ma_neg (B : Below A₀ base outer h₀) (F : Fr h₀ L s.heap m) (X : (hd.heap_39 w.params).In h₀) (T : Top hd.view_39 Lz mean mg mb h₀) (XB : (hd.heap_39 w.params).In base) (TB : Top hd.view_39 Lz mean mg mb base) (D : KtsDicts (fsOf outer) h₀) (hk : cs.kind = .function) (hdp : dp + 12 < recursionLimit) (hun : un + 90 < cLine)
    {d k : Array UInt8} {td tk to : Tok} (hdz : d.size ≤ 14) (hz : (k.size : Int) = 8) (hret : RetT s (L :: fsOf outer) Q fun t => .str (Str.ofString "refused") t) :
    wpAny (model Challenge.pw_ez0013_01 w) (ktrTop dp un gd cn cs L a ccd cl outer) (call (.ref 741) [.bytes d td, .bytes k tk, .int (-1) to]) Q E s := by
  have D1 := own_dictsX (cn := cn) (cs := cs) (a := a) (ccd := ccd) (cl := cl) F D
  refine wpAny_call ?_
  k_dflt (((refine' code_own (binds := [(Str.ofString "octets", Value.bytes d td), (Str.ofString "key", Value.bytes k tk), (Str.ofString "place", Value.int (-1) to)]) ?k1 ?k2 ?k3 ?k5 ?kA ?kF ?kK ?k6 ?k7 ?k8 ?k9 ?kB ?_ ?c2 ?c3 ?c4 ?c5; (case kA => exact rfl); (case kF => exact rfl); (case kK => first | exact rfl | assumption); (case k1 => k_asm); (case k2 => k_asm); (case k3 => k_asm); (case k5 => k_asm); (case k6 => k_is); (case k7 => k_is); (case k8 => ktr_room); (case k9 => first | exact BindsTo.of_eq rfl | exact binds_K (by k_in) rfl (by k_is) rfl rfl rfl); (case c5 => decide); (case kB => exact locs rfl); (case c2 => exact rfl); (case c3 => exact rfl); (case c4 => exact rfl); k_whole; intro L' h' F' N' B' X' T'; (try dsimp only); (try k_lift B'); (try k_fold))))
  k_steps
  all_goals exact hret _ _ _ (Back.of_turn (by assumption) (by assumption))
set_option maxHeartbeats 1500000 in
theorem ma_kind (B : Below A₀ base outer h₀) (F : Fr h₀ L s.heap m) (X : (hd.heap_39 w.params).In h₀) (T : Top hd.view_39 Lz mean mg mb h₀) (XB : (hd.heap_39 w.params).In base) (TB : Top hd.view_39 Lz mean mg mb base) (D : KtsDicts (fsOf outer) h₀) (hk : cs.kind = .function) (hdp : dp + 12 < recursionLimit) (hun : un + 90 < cLine)
    {d k : Array UInt8} {td tk to : Tok} (hdz : d.size ≤ 14) (hz : (k.size : Int) = 8) (hret : RetT s (L :: fsOf outer) Q fun t => .str (Str.ofString "kind") t) :
    wpAny (model Challenge.pw_ez0013_01 w) (ktrTop dp un gd cn cs L a ccd cl outer) (call (.ref 741) [.bytes d td, .bytes k tk, .bool true]) Q E s := by
  have D1 := own_dictsX (cn := cn) (cs := cs) (a := a) (ccd := ccd) (cl := cl) F D
  refine wpAny_call ?_
  k_dflt (((refine' code_own (binds := [(Str.ofString "octets", Value.bytes d td), (Str.ofString "key", Value.bytes k tk), (Str.ofString "place", Value.bool true)]) ?k1 ?k2 ?k3 ?k5 ?kA ?kF ?kK ?k6 ?k7 ?k8 ?k9 ?kB ?_ ?c2 ?c3 ?c4 ?c5; (case kA => exact rfl); (case kF => exact rfl); (case kK => first | exact rfl | assumption); (case k1 => k_asm); (case k2 => k_asm); (case k3 => k_asm); (case k5 => k_asm); (case k6 => k_is); (case k7 => k_is); (case k8 => ktr_room); (case k9 => first | exact BindsTo.of_eq rfl | exact binds_K (by k_in) rfl (by k_is) rfl rfl rfl); (case c5 => decide); (case kB => exact locs rfl); (case c2 => exact rfl); (case c3 => exact rfl); (case c4 => exact rfl); k_whole; intro L' h' F' N' B' X' T'; (try dsimp only); (try k_lift B'); (try k_fold))))
  k_steps
  all_goals exact hret _ _ _ (Back.of_turn (by assumption) (by assumption))
end
end Mine

end
section

open PySem PySem.W PySem.Calls PyProof.Rows
namespace Mine
set_option maxRecDepth 100000
local macro_rules | `(tactic| cell_enter) => `(tactic| (refine' code_own ?k1 ?k2 ?k3 ?k5 ?kA ?kF ?kK ?k6 ?k7 ?k8 ?k9 ?kB ?_ ?c2 ?c3 ?c4 ?c5; (case kA => exact rfl); (case kF => exact rfl); (case kK => first | exact rfl | assumption); (case k1 => k_asm); (case k2 => k_asm); (case k3 => k_asm); (case k5 => k_asm); (case k6 => k_is); (case k7 => k_is); (case k8 => ktr_room); (case k9 => first | exact BindsTo.of_eq rfl | exact binds_K (by k_in) rfl (by k_is) rfl rfl rfl); (case c5 => decide); (case kB => exact locs rfl); (case c2 => exact rfl); (case c3 => exact rfl); (case c4 => exact rfl); k_whole; intro L' h' F' N' B' X' T'; (try dsimp only); (try k_lift B'); (try k_fold)))
local macro_rules | `(tactic| walk_at "call type:bytes") => `(tactic| ((with_reducible show wpAny _ _ (call (Value.type "bytes") [Value.bytes _ _]) _ _ _); (refine bytes_of_bytes ?_)))
local macro_rules | `(tactic| k_room) => `(tactic| ktr_room)
local macro_rules | `(tactic| walk_at "call builtin:len") => `(tactic| ((with_reducible show wpAny _ _ (call (Value.builtin "len") [Value.bytes _ _]) _ _ _); (refine len_bytes_at (by assumption) (by omega) ?_); intro _ _))
local macro_rules | `(tactic| walk_at "truthy bytes") => `(tactic| ((with_reducible show wpAny _ _ (truthy (Value.bytes _ _)) _ _ _); (refine truthy_bytes_at (by assumption) (by omega) ?_); intro _))
local macro_rules | `(tactic| walk_at "subscriptTail") => `(tactic| ((with_reducible show wpAny _ _ (subscriptTail _ (Expr.Slice _ _ none _) (Value.bytes _ _) (Value.ref _)) _ _ _); (with_reducible rename Fr _ _ _ _ => F'); (with_reducible rename News _ _ _ _ => N'); (refine slice_B (s := ⟨_, _, _, _, _⟩) F' N' (by constructor) (by constructor) (by omega) ?_); intro h' t' k' c' F' N' hS' hZ'; (dsimp only [Option.elim] at hS'); (dsimp only [Option.elim] at hZ'); (try simp only [List.drop_zero, Nat.sub_zero] at hS'); (try simp only [Nat.sub_zero, clipAt_nat] at hZ'); (try k_sweep)))
local macro_rules | `(tactic| walk_at "binaryOp Mult bytes int") => `(tactic| ((with_reducible show wpAny _ _ (binaryOp Operator.Mult (Value.bytes _ _) (Value.int _ _)) _ _ _); (refine mul_B (by omega) ?n0 ?n1 ?_; (case n0 => first | omega | (simp only [Int.fdiv_eq_ediv_of_nonneg _ (by decide : (0 : Int) ≤ 8)]; omega)); (case n1 => first | omega | (simp only [Int.fdiv_eq_ediv_of_nonneg _ (by decide : (0 : Int) ≤ 8)]; omega))); intro t' k' c' hS' hZ'; (try simp only [Int.fdiv_eq_ediv_of_nonneg _ (by decide : (0 : Int) ≤ 8)] at hZ')))
local macro_rules | `(tactic| walk_at "binaryOp Add bytes bytes") => `(tactic| ((with_reducible show wpAny _ _ (binaryOp Operator.Add (Value.bytes _ _) (Value.bytes _ _)) _ _ _); (refine add_B (by omega) ?_); intro t' k' c' hS' hZ'))
local macro_rules | `(tactic| walk_at "call builtin:len") => `(tactic| ((with_reducible show wpAny _ _ (call (Value.builtin "len") [Value.bytes _ _]) _ _ _); first | ((refine len_bytes_at (by assumption) (by omega) ?_); intro _ _) | ((refine len_B (by omega) ?_); intro _ _)))
local macro_rules | `(tactic| walk_at "call ref") => `(tactic| ((with_reducible show wpAny _ _ (call (Value.ref _) [Value.bytes _ _, Value.str _ _]) _ _ _); k_dflt (refine call_fb_big (by k_asm) (by k_mem) (by omega) ?_); intro _ _))
local macro_rules | `(tactic| walk_at "call type:type") => `(tactic| ((with_reducible show wpAny _ _ (call (Value.type "type") [Value.bytes _ _]) _ _ _); refine call_type_of (Tx := "bytes") (PySem.W.typeIs_bytes _ _ _) (by decide +kernel) ?_))
local macro_rules | `(tactic| walk_at "exec Raise some none") => `(tactic| ((with_reducible show wpAny _ _ (exec (Stmt.Raise (some (Expr.Call (Expr.Name _ _) (_ :: _) [] _)) none _) _) _ _ _); k_dflt (first
  | (refine' Raise_own2 ?F ?g ?O PySem.F.excBase_Exception ?n PySem.F.excBase_ValueError ?h ?_ ?a ?b ?c ?d ?e; (case F => k_asm); (case g => exact TopRead.g (by k_asm)); (case O => exact own_of_in (by k_asm) (by k_asm) (by k_is) (by k_exc)); (case n => rfl); (case h => first | rfl | assumption); (case a => rfl); (case b => rfl); (case c => rfl); (case d => rfl); (case e => decide); k_whole)
  | (refine' Raise_own2 ?F ?g ?O PySem.F.excBase_Exception ?n PySem.F.excBase_TypeError ?h ?_ ?a ?b ?c ?d ?e; (case F => k_asm); (case g => exact TopRead.g (by k_asm)); (case O => exact own_of_in (by k_asm) (by k_asm) (by k_is) (by k_exc)); (case n => rfl); (case h => first | rfl | assumption); (case a => rfl); (case b => rfl); (case c => rfl); (case d => rfl); (case e => decide); k_whole))))
local macro_rules | `(tactic| walk_at "getMethod type:int") => `(tactic| (with_reducible (refine' fast_fb ?kfbF ?kfbN ?kfbX ?_; (case kfbF => k_asm); (case kfbN => k_asm); (case kfbX => k_asm); k_whole); intro x' h' F' N' l1; (try k_lt l1); (try k_sweep)))
local macro_rules | `(tactic| walk_at "eval Name") => `(tactic| (first
  | ((name_kind "local"); (with_reducible refine' fastL ?xF ?xl ?xv ?xk ?xd ?_); (case xl => decide +kernel); (case xF => k_asm); (case xk => first | exact rfl | assumption); (case xd => kernel_rfl); (case xv => k_dflt (exact rfl)); k_whole)
  | ((name_kind "globalImplicit"); (with_reducible refine' fastG ?xF ?xl ?xX ?xT ?xe ?xk ?xd ?_); (case xl => decide +kernel); (case xF => k_asm); (case xX => k_asm); (case xT => k_asm); (case xe => k_dflt k_is); (case xk => first | exact rfl | assumption); (case xd => kernel_rfl); k_whole)
  | ((name_kind "globalImplicit"); name_is_builtin; (with_reducible refine' fastB ?xF ?xl ?xX ?xT ?xe ?xv ?xn ?xk ?xd ?_); (case xl => kernel_rfl); (case xF => k_asm); (case xX => k_asm); (case xT => k_asm); (case xe => k_dflt k_is); (case xv => k_dflt (first | boot_fast | boot_by_name)); (case xn => decide); (case xk => first | exact rfl | assumption); (case xd => kernel_rfl); k_whole)
  | ((name_kind "local"); (with_reducible refine' fastXL ?xF ?xl ?xv ?xk ?xd ?_); (case xl => decide +kernel); (case xF => k_asm); (case xk => first | exact rfl | assumption); (case xd => kernel_rfl); (case xv => k_dflt (exact rfl)); k_whole)
  | ((name_kind "cell"); (with_reducible refine' fastXC ?xN ?xl ?xc ?xm ?xo ?xk ?xd ?_); (case xl => decide +kernel); (case xN => k_asm); (case xc => k_dflt (exact rfl)); (case xm => k_dflt k_mem); (case xo => k_dflt k_asm); (case xk => first | exact rfl | assumption); (case xd => kernel_rfl); k_whole)
  | ((name_kind "globalImplicit"); (with_reducible refine' fastXG ?xF ?xl ?xX ?xT ?xe ?xk ?xd ?_); (case xl => decide +kernel); (case xF => k_asm); (case xX => k_asm); (case xT => k_asm); (case xe => k_dflt k_is); (case xk => first | exact rfl | assumption); (case xd => kernel_rfl); k_whole)
  | ((name_kind "globalImplicit"); name_is_builtin; (with_reducible refine' fastXB ?xF ?xl ?xX ?xT ?xe ?xv ?xn ?xk ?xd ?_); (case xl => kernel_rfl); (case xF => k_asm); (case xX => k_asm); (case xT => k_asm); (case xe => k_dflt k_is); (case xv => k_dflt (first | boot_fast | boot_by_name)); (case xn => decide); (case xk => first | exact rfl | assumption); (case xd => kernel_rfl); k_whole)
  | ((name_kind "local"); (with_reducible refine' fastYL ?xF ?xl ?xv ?xk ?xd ?_); (case xl => decide +kernel); (case xF => k_asm); (case xk => first | exact rfl | assumption); (case xd => kernel_rfl); (case xv => k_dflt (exact rfl)); k_whole)
  | ((name_kind "cell"); (with_reducible refine' fastYC ?xN ?xl ?xc ?xm ?xo ?xk ?xd ?_); (case xl => decide +kernel); (case xN => k_asm); (case xc => k_dflt (exact rfl)); (case xm => k_dflt k_mem); (case xo => k_dflt k_asm); (case xk => first | exact rfl | assumption); (case xd => kernel_rfl); k_whole)
  | ((name_kind "globalImplicit"); (with_reducible refine' fastYG ?xF ?xl ?xX ?xT ?xe ?xk ?xd ?_); (case xl => decide +kernel); (case xF => k_asm); (case xX => k_asm); (case xT => k_asm); (case xe => k_dflt k_is); (case xk => first | exact rfl | assumption); (case xd => kernel_rfl); k_whole)
  | ((name_kind "globalImplicit"); name_is_builtin; (with_reducible refine' fastYB ?xF ?xl ?xX ?xT ?xe ?xv ?xn ?xk ?xd ?_); (case xl => kernel_rfl); (case xF => k_asm); (case xX => k_asm); (case xT => k_asm); (case xe => k_dflt k_is); (case xv => k_dflt (first | boot_fast | boot_by_name)); (case xn => decide); (case xk => first | exact rfl | assumption); (case xd => kernel_rfl); k_whole)
  | ((name_kind "local"); (with_reducible refine' fastCL ?xN ?xl ?xm ?xo ?xv ?xk ?xd ?_); (case xl => decide +kernel); (case xN => k_asm); (case xm => k_dflt k_mem); (case xo => assumption); (case xv => assumption); (case xk => exact rfl); (case xd => kernel_rfl); k_whole)
  | ((name_kind "free"); (with_reducible refine' fastCF ?xN ?xl ?xe ?xs ?xc ?xm ?xo ?xk ?xd ?_); (case xl => decide +kernel); (case xe => kernel_rfl); (case xs => kernel_rfl); (case xN => k_asm); (case xc => k_dflt (exact rfl)); (case xm => k_dflt k_mem); (case xo => k_dflt k_asm); (case xk => exact rfl); (case xd => kernel_rfl); k_whole)
  | ((name_kind "free"); (with_reducible refine' fastCY ?xN ?xl ?xe ?xs ?xc ?xm ?xo ?xk ?xd ?_); (case xl => decide +kernel); (case xe => kernel_rfl); (case xs => kernel_rfl); (case xN => k_asm); (case xc => k_dflt (exact rfl)); (case xm => k_dflt k_mem); (case xo => k_dflt k_asm); (case xk => exact rfl); (case xd => kernel_rfl); k_whole)
  | ((name_kind "globalImplicit"); (with_reducible refine' fastCG ?xF ?xl ?xX ?xT ?xe ?xg ?xk ?xd ?_); (case xl => decide +kernel); (case xF => k_asm); (case xX => k_asm); (case xT => k_asm); (case xe => k_dflt k_is); (case xg => k_dflt (exact rfl)); (case xk => exact rfl); (case xd => kernel_rfl); k_whole)
  | ((name_kind "globalImplicit"); name_is_builtin; (with_reducible refine' fastCB ?xF ?xl ?xX ?xT ?xe ?xv ?xn ?xg ?xb ?xk ?xd ?_); (case xl => kernel_rfl); (case xF => k_asm); (case xX => k_asm); (case xT => k_asm); (case xe => k_dflt k_is); (case xv => k_dflt (first | boot_fast | boot_by_name)); (case xn => decide); (case xg => k_dflt (exact rfl)); (case xb => k_dflt (exact rfl)); (case xk => exact rfl); (case xd => kernel_rfl); k_whole)))
local macro_rules | `(tactic| walk_at "call ref") => `(tactic| ((with_reducible show wpAny _ _ (call (Value.ref 66) _) _ _ _); k_dflt (first
  | (refine' bfo1 ?B ?F ?X ?T ?hk ?hd ?hu ?_)
  | (refine' bfo2 ?B ?F ?X ?T ?hk ?hd ?hu ?hz ?_; (case hz => assumption))); (case B => k_asm); (case F => k_asm); (case X => k_asm); (case T => k_asm); (case hk => first | exact rfl | assumption); (case hd => ktr_room); (case hu => ktr_units); (intro h9 t9 k9 hk9); (have F9 := Fr.keeps (by k_asm) hk9); (have N9 := News.grown (by k_asm) hk9); clear hk9; (try k_sweep)))
local macro_rules | `(tactic| walk_at "binaryOp FloorDiv int int") => `(tactic| ((with_reducible show wpAny _ _ (binaryOp Operator.FloorDiv (Value.int _ _) (Value.int (256 ^ _) _)) _ _ _); (refine floordiv_int (p256_ne _) ?_ (Or.inl (np256 (by omega))))))
local macro_rules | `(tactic| walk_at "callWith builtin:int.to_bytes") => `(tactic| ((with_reducible show wpAny _ _ (callWith _ (Value.builtin _) _ _ (backToKw _ _)) _ _ _); k_dflt (refine callWith_little (P := fun _ => True) keeper_builtin ?_)))
local macro_rules | `(tactic| walk_at "callWith ref") => `(tactic| ((with_reducible show wpAny _ _ (callWith _ (Value.ref _) _ _ (backToKw _ _)) _ _ _); k_dflt (refine callWith_little (P := KFB.StandsAt _) keeper_bound ?_)))
local macro_rules | `(tactic| walk_at "call builtin:int.to_bytes") => `(tactic| ((with_reducible show wpAny _ _ (call (Value.builtin _) _ (kwLittle _)) _ _ _); k_dflt (first | (refine tb_low (k := 2) ?h0 ?h1 (by decide) ?_; (case h0 => omega); (case h1 => omega)) | (refine tb_low (k := 4) ?h0 ?h1 (by decide) ?_; (case h0 => omega); (case h1 => omega)) | (refine tb_low (k := 8) ?h0 ?h1 (by decide) ?_; (case h0 => omega); (case h1 => omega))); intro t8 k8))
local macro_rules | `(tactic| walk_at "call ref") => `(tactic| ((with_reducible show wpAny _ _ (call (Value.ref _) _ (kwLittle _)) _ _ _); k_dflt (refine call_fb_little (by k_asm) (by k_mem) (by omega) ?_); intro _ _))
local macro_rules | `(tactic| walk_at "call builtin:len") => `(tactic| ((with_reducible show wpAny _ _ (call (Value.builtin "len") [Value.ref _]) _ _ _); k_dflt (refine len_baK (by k_asm) (by k_mem) (by omega) ?_); intro _ _))
local macro_rules | `(tactic| walk_at "call type:bytes") => `(tactic| ((with_reducible show wpAny _ _ (call (Value.type "bytes") [Value.ref _]) _ _ _); k_dflt (refine bytes_baK (by k_asm) (by k_mem) (by omega) ?_); intro _ _))
local macro_rules | `(tactic| walk_at "subscriptTail") => `(tactic| ((with_reducible show wpAny _ _ (subscriptTail _ (Expr.Slice _ _ none _) (Value.ref _) (Value.ref _)) _ _ _); (with_reducible rename Fr _ _ _ _ => F'); (with_reducible rename News _ _ _ _ => N'); k_dflt (refine cut_K (s := ⟨_, _, _, _, _⟩) F' N' (by k_mem) (by omega) (by omega) (by omega) (by omega) ?_); intro r' h' c' F' N' l1 hS' hZ'; (try k_lt l1); (try k_sweep)))
local macro_rules | `(tactic| walk_at "subscriptTail") => `(tactic| ((with_reducible show wpAny _ _ (subscriptTail _ (Expr.Constant (Const.int 0) _ _) (Value.bytes _ _) (Value.int _ _)) _ _ _); k_dflt (refine item0_at (by assumption) (by omega) (by omega) (by omega) (by omega) (by assumption) ?_); intro _))
local macro_rules | `(tactic| walk_at "call ref") => `(tactic| ((with_reducible show wpAny _ _ (call (Value.ref _) _ (kwLittle _)) _ _ _); k_dflt (first | refine fbl_at (kk := 2) (by k_asm) (by k_mem) (by assumption) (by omega) (by omega) (by assumption) (by omega) (by omega) (by omega) ?_ | refine fbl_at (kk := 4) (by k_asm) (by k_mem) (by assumption) (by omega) (by omega) (by assumption) (by omega) (by omega) (by omega) ?_ | refine fbl_at (kk := 8) (by k_asm) (by k_mem) (by assumption) (by omega) (by omega) (by assumption) (by omega) (by omega) (by omega) ?_); intro _ _))
local macro_rules | `(tactic| walk_at "truthy bytes") => `(tactic| ((with_reducible show wpAny _ _ (truthy (Value.bytes #[] _)) _ _ _); (refine empty_truthy ?_); intro _))
local macro_rules | `(tactic| k_enter) => `(tactic| ((fail_if_success k_inElt); (refine' code_def ?k1 ?k2 ?k3 ?k4 ?k5 ?kA ?kF ?kK ?k6 ?k7 ?k8 ?k9 ?kB ?_ ?c2 ?c3 ?c4 ?c5; (case kA => exact rfl); (case kF => exact rfl); (case kK => first | exact rfl | assumption); (case k1 => k_asm); (case k2 => k_asm); (case k3 => k_asm); (case k4 => k_asm); (case k5 => k_asm); (case k6 => k_is); (case k7 => k_is); (case k8 => k_room); (case k9 => refine' binds_as ?kb1 ?kb2; (case kb1 => first | exact BindsTo.of_eq rfl | exact binds_K (by k_in) rfl (by k_is) rfl rfl rfl); (case kb2 => (conv => arg 1; whnf); (repeat (apply same_cons; (focus ((conv => arg 1; arg 1; whnf); (try dsimp only); exact same_rfl)); (focus ((conv => arg 1; arg 1; whnf); (try dsimp only); exact same_rfl)); (conv => arg 1; whnf))); exact same_nil)); (case c5 => decide); (case kB => exact locs rfl); (case c2 => exact rfl); (case c3 => exact rfl); (case c4 => exact rfl); k_whole; intro g' L' h' FG' F' N' B' X' T'; (try dsimp only); (try k_lift B'); (try k_fold))))
local macro_rules | `(tactic| walk_at "ite") => `(tactic| (k_closed; with_reducible (first | (refine' iteBT ?hIte ?_; (case hIte => decide +kernel)) | (refine' iteBF ?hIte ?_; (case hIte => decide +kernel)))))
local macro_rules | `(tactic| walk_at "ite") => `(tactic| with_reducible (first | refine iteTT ?_ | refine iteFT ?_ | refine iteNeS ?_ | refine iteEqS ?_))
section
variable {w : World} {mean : ExcName → Option Value} {mg mb : Str → Option Value} {dp un : Nat} {gd : Option (List Code)} {cn : Str} {cs : Scope} {a : Addr} {ccd : Value} {cl : List (Str × Addr)} {outer : List Env} {A₀ : Around} {base h₀ : Heap} {L : Addr} {m : Str → Option Value} {s : Shared} {Q E : Value → Shared → Prop}
/-- what a read hands back -/
abbrev RetRd (w : World) (h₀ : Heap) (L : Addr) (m : Str → Option Value) (s : Shared) (Q : Value → Shared → Prop) (b : Array UInt8) (p n : Int) (q x dx : Addr) (t1 t2 : Tok) : Prop :=
  ∀ (h' : Heap) (k : Nat) (c : Array UInt8) (t' t3' : Tok) (p' : Int), Fr h₀ L h' m → News h₀ L h' ((q, baObj b) :: (x, instObj 367 dx) :: (dx, ioDict w.params q p' t1 t2 t3')::[]) →
    c.toList = (b.toList.drop p.toNat).take n.toNat → (c.size : Int) = min n (b.size - p) → p' = p + c.size → Q (.bytes c t') { s with heap := h', toks := k }
theorem rd_news {h : Heap} {a b c d : Addr × Obj} {r : List (Addr × Obj)} (N : News h₀ L h (d :: a :: b :: c :: r)) : News h₀ L h (a :: b :: c :: r) := fun p hp => N p (List.Mem.tail _ hp)
theorem rd_full {b c : Array UInt8} {p n : Int} (hp : 0 ≤ p) (hc : c.toList = (b.toList.drop p.toNat).take ((p + n) - p).toNat) : c.toList = (b.toList.drop p.toNat).take n.toNat := by
  rw [hc]; congr 1; omega
theorem rd_rest {b c : Array UInt8} {p n : Int} (hp : 0 ≤ p) (hn : (b.size : Int) ≤ p + n) (hc : c.toList = (b.toList.drop p.toNat).take ((b.size : Int) - p).toNat) : c.toList = (b.toList.drop p.toNat).take n.toNat := by
  rw [hc, List.take_of_length_le (by rw [List.length_drop, Array.length_toList]; omega), List.take_of_length_le (by rw [List.length_drop, Array.length_toList]; omega)]
theorem rd_none {b : Array UInt8} {p n : Int} (hp : (b.size : Int) ≤ p) : (#[] : Array UInt8).toList = (b.toList.drop p.toNat).take n.toNat := by
  rw [List.drop_eq_nil_of_le (by rw [Array.length_toList]; omega)]
  simp
set_option maxHeartbeats 3000000 in
theorem read_K (B : Below A₀ base outer h₀) (F : Fr h₀ L s.heap m) (X : (hd.heap_39 w.params).In h₀) (T : Top hd.view_39 Lz mean mg mb h₀) (hk : cs.kind = .function) (hdp : dp + 8 < recursionLimit) (hun : un + 60 < cLine)
    {b : Array UInt8} {p n : Int} {q x dx : Addr} {t1 t2 t3 tn : Tok} (N : News h₀ L s.heap ((q, baObj b) :: (x, instObj 367 dx) :: (dx, ioDict w.params q p t1 t2 t3) :: []))
    (l1 : dx < x) (l2 : x < q) (hz : b.size ≤ 100) (h0 : 0 ≤ p) (h1 : p ≤ b.size) (h2 : 0 ≤ n) (h3 : n ≤ 1099511627776) (hret : RetRd w h₀ L m s Q b p n q x dx t1 t2) :
    wpAny (model Challenge.pw_ez0013_01 w) (ktrTop dp un gd cn cs L a ccd cl outer) (call (.ref 291) [.ref x, .int n tn]) Q E s := by
  refine fill (Q := PySem.Challenge.rw_ez0013_01 = PySem.Challenge.rw_ez0013_01 ∧ hd.heap_39 = hd.heap_39) ?_
  k_fill
  refine ⟨⟨rfl, rfl⟩, ?_⟩
  replace l1 := ltN l1
  replace l2 := ltN l2
  refine wpAny_call ?_
  k_dflt k_enter
  k_steps
  all_goals first
    | exact hret _ _ _ _ _ _ (by assumption) (rd_news (by assumption)) (rd_full h0 (by assumption)) (by omega) (by omega)
    | exact hret _ _ _ _ _ _ (by assumption) (rd_news (by assumption)) (rd_rest h0 (by omega) (by assumption)) (by omega) (by omega)
    | exact hret _ _ _ _ _ _ (by assumption) (by assumption) (rd_none (by omega)) (by show ((0 : Nat) : Int) = _; omega) (by show _ = _ + ((0 : Nat) : Int); omega)

end
end Mine

end
section
open PySem PySem.W PySem.Calls PyProof.Rows Builtin Float
namespace Mine
set_option maxRecDepth 100000
def hexF : FormatSpec := { type := some 120, fill := 32, align := 62, width := none, sign := none, alt := false, grouping := none, precision := none, noNeg0 := false }
theorem hex_parse : parseFormatSpec (Str.ofString "x").cps.toList "int" 62 = .ok hexF := by rfl
def hexD (n : Int) : List Nat := (Nat.toDigits 16 n.natAbs).map fun c => (if (120 : Nat) == 88 then c.toUpper else c).toNat
def hexT (n : Int) : Str := intField' hexF (decide (n < 0)) [] (hexD n) [] 4
theorem hexT_length (n : Int) (h0 : 0 ≤ n) (h1 : n < 18446744073709551616) : 1 ≤ (hexT n).length ∧ (hexT n).length ≤ 16 := by
  have hd : 1 ≤ (Nat.toDigits 16 n.natAbs).length := tDigits_len_ge 16 n.natAbs
  have hd2 : (Nat.toDigits 16 n.natAbs).length ≤ 16 := (Nat.length_toDigits_le_iff (by decide) (by decide)).mpr (by
    have : (16 : Nat) ^ 16 = 18446744073709551616 := by decide
    omega)
  have he : (hexD n).isEmpty = false := by
    unfold hexD
    cases h : Nat.toDigits 16 n.natAbs with
    | nil => rw [h] at hd; simp at hd
    | cons _ _ => rfl
  unfold hexT
  rw [intField'_length_plain _ _ _ _ rfl rfl he, decide_eq_false (by omega)]
  show 1 ≤ max 0 (0 + (hexD n).length) ∧ max 0 (0 + (hexD n).length) ≤ 16
  unfold hexD
  rw [List.length_map]
  omega
section
variable {prog : Program} {w : World} {A : Around} {E : Value → Shared → Prop} {s : Shared}
set_option maxHeartbeats 2000000 in
theorem formatField_hex {n : Int} {t : Tok} {Q : Value → Shared → Prop} (h0 : 0 ≤ n) (h1 : n < 18446744073709551616) (h : ∀ t' k, Q (.str (hexT n) t') { s with toks := k }) :
    wpAny (model prog w) A (formatField (.int n t) (Str.ofString "x")) Q E s := by
  have hlen : (hexT n).length ≤ sizeLine := by rw [sizeLine_eq]; have := (hexT_length n h0 h1).2; omega
  show wpAny _ _ (holding [.int n t] (pyFormat (.int n t) (Str.ofString "x"))) Q E s
  refine wpAny_holding ?_
  unfold pyFormat
  refine wpAny_bind (wpAny_mkStr ?_ (by rw [sizeLine_eq]; decide))
  refine wpAny_bind (m := callSpecial? (.int n t) (Str.ofString "__format__") [.str (Str.ofString "x") s.toks]) (wpAny_callSpecial?_slot (name := Str.ofString "__format__") (typeIs_int _ n t) slot_int_format ?_)
  refine wpAny_call (codeAny_call_builtin slot_int_format.plain entry_int_format (slot_int_format.check _ _ _ _ _ _ _ _ (typeIs_int _ n t) (args_int_format _ _) ?_))
  have hne : ((Str.ofString "x").length == 0) = false := by decide
  have hasc : (((Str.ofString "x").cps.toList.drop 1).any (· ≥ 128) || ((Str.ofString "x").cps.getD 0 0 ≥ 128 && !([60, 62, 61, 94] : List Nat).contains ((Str.ofString "x").cps.getD 1 0))) = false := by decide
  unfold Builtin.«int.__format__»
  simp only [selfAndOne, noKeywords, Int.intOfSelf, asInt?, asStr?, List.isEmpty_nil, if_true, pure_bind, bind_pure, bind_assoc, hne, hasc, Bool.false_eq_true, if_false,
    show (Value.str (Str.ofString "x") s.toks == Value.none) = false from rfl]
  refine wpAny_bind (wpAny_typeNameOf (T := "str") (typeIs_str _ _ _) (by decide) fun _ => ?_)
  first | refine wpAny_bind (wpAny_typeNameOfCut_int ?_) | refine wpAny_bind (wpAny_typeNameOf_int ?_)
  obtain ⟨f, hp, hty, hpr, hz, hal, hw, hf⟩ : ∃ f, parseFormatSpec (Str.ofString "x").cps.toList "int" 62 = .ok f ∧ f.type = some 120 ∧ f.precision = none ∧ f.noNeg0 = false ∧ f.alt = false ∧ f.width = none ∧ f = hexF := ⟨hexF, hex_parse, rfl, rfl, rfl, rfl, rfl, rfl⟩
  simp only [hp, hty, Option.getD_some]
  rw [if_pos (by decide)]
  show wpAny _ _ (if _ then _ else _) _ _ _
  rw [if_neg (by simp [hpr])]
  show wpAny _ _ (if _ then _ else _) _ _ _
  rw [if_neg (by simp [hz])]
  show wpAny _ _ (if _ then _ else _) _ _ _
  rw [if_neg (by decide)]
  show wpAny _ _ (if _ then _ else _) _ _ _
  rw [if_neg (by decide)]
  show wpAny _ _ (if f.width.getD 0 > 100000 then _ else _) _ _ _
  rw [if_neg (by rw [hw]; decide)]
  show wpAny _ _ (retStr _) _ _ _
  have e : ∀ X : Str, X = hexT n → wpAny (model prog w) A.in1 (retStr X) (fun fin s' => match fin with
      | .done f => (fun r s' => match r with | .ok (.ret v) => wpAny (model prog w) A (do
          if ← isInstance v (.type "str") then return v
          rule "format.no-str"; raiseError "TypeError" s!"__format__ must return a str, not {← typeNameOf v}") Q E s' | .ok _ => False | .error e => E e s') (Except.ok f) s'
      | .again c' => c'.quiet = true ∧ codeAny (model prog w) A c' (fun r s' => match r with | .ok (.ret v) => wpAny (model prog w) A (do
          if ← isInstance v (.type "str") then return v
          rule "format.no-str"; raiseError "TypeError" s!"__format__ must return a str, not {← typeNameOf v}") Q E s' | .ok _ => False | .error e => E e s') s') (fun e s' => E e s') { s with toks := s.toks + 1 } := by
    intro X hX
    subst hX
    unfold retStr
    refine wpAny_bind (wpAny_mkStr (wpAny_pure ?_) hlen)
    dsimp only
    exact wpAny_bind (wpAny_isInstance (typeIs_str _ _ _) isSubtype_str_str (wpAny_pure (h _ _)))
  refine e _ ?_
  rw [hf]
  rfl
end
end Mine

end
section
open PySem PySem.W PySem.Calls PyProof.Rows Builtin
namespace Mine
set_option maxRecDepth 100000
set_option maxHeartbeats 1000000
theorem sub_ri_reversed : isSubtype (.type "range_iterator") (.type "reversed") = pure false := by rw [isSubtype_type]; kernel_rfl
theorem ri_no_len : typeLookup (.type "range_iterator") "__len__" = pure none := by rw [typeLookup_type, builtinLookup_eq_fast]; kernel_rfl
abbrev riObj (x n c : Int) : Obj := { cls := .type "range_iterator", data := .fields #[rawInt x, rawInt n, rawInt c] }
section
variable {prog : Program} {w : World} {A : Around} {E : Value → Shared → Prop} {s : Shared}
theorem call_range_reversed {r : Addr} {a b c n : Int} {t u v : Tok} {Q : Value → Shared → Prop} (hr : IsRange s.heap r a b c t u v) (hn : Builtin.Range.rangeSize a b c = n)
    (hsmall : (Builtin.Range.rangeFitsLong a && Builtin.Range.rangeFitsLong b && Builtin.Range.rangeFitsLong c && Builtin.Range.rangeFitsLong (-c) && Builtin.Range.rangeFitsLong (a - c) && Builtin.Range.rangeFitsLong n) = true)
    (h : Q (.ref s.heap.objs.size) { s with heap := s.heap.push (riObj (a + (n - 1) * c) n (-c)) }) : wpAny (model prog w) A (call (.builtin "range.__reversed__") [.ref r]) Q E s := by
  have hT : s.TypeIs (.ref r) "range" := ⟨_, hr, rfl⟩
  refine wpAny_call_entry F.slot_range_reversed hT F.entry_range_reversed ?_ (F.args_range_reversed_1 _)
  unfold Builtin.«range.__reversed__»
  refine wpAny_bind (wpAny_of_eq (a := Value.ref r) rfl ?_)
  refine wpAny_bind ?_
  unfold Builtin.Range.rangeFields
  refine wpAny_bind (m := field (.ref r) 0) (wpAny_field hr rfl rfl (wpAny_bind (wpAny_of_eq (a := some a) rfl ?_)))
  refine wpAny_bind (m := field (.ref r) 1) (wpAny_field hr rfl rfl (wpAny_bind (wpAny_of_eq (a := some b) rfl ?_)))
  refine wpAny_bind (m := field (.ref r) 2) (wpAny_field hr rfl rfl (wpAny_bind (wpAny_of_eq (a := some c) rfl ?_)))
  refine wpAny_pure ?_
  dsimp only
  rw [hn, hsmall]
  exact wpAny_bind (wpAny_newObj_type (wpAny_pure ⟨_, rfl, h⟩))
theorem code_reversed_new_range {r : Addr} {a b c n : Int} {t u v : Tok} {Q₁ : Value → Shared → Prop} (hr : IsRange s.heap r a b c t u v) (hn : Builtin.Range.rangeSize a b c = n)
    (hsmall : (Builtin.Range.rangeFitsLong a && Builtin.Range.rangeFitsLong b && Builtin.Range.rangeFitsLong c && Builtin.Range.rangeFitsLong (-c) && Builtin.Range.rangeFitsLong (a - c) && Builtin.Range.rangeFitsLong n) = true)
    (h : Q₁ (.ref s.heap.objs.size) { s with heap := s.heap.push (riObj (a + (n - 1) * c) n (-c)) }) :
    codeAny (model prog w) A (.call (.builtin "reversed.__new__") ⟨[.type "reversed", .ref r], []⟩) (wants Q₁ E) s := by
  have hT : s.TypeIs (.ref r) "range" := ⟨_, hr, rfl⟩
  refine codeAny_of_tree ?_
  show wpAny _ A.in1 (do checkBuiltinCall "reversed.__new__" ⟨[.type "reversed", .ref r], []⟩; again (.builtin "reversed.__new__" ⟨[.type "reversed", .ref r], []⟩)) _ _ s
  refine wpAny_bind (wpAny_of_eq (F.newCall_reversed_1 _) (wpAny_pure ⟨plainId_quiet F.plain_reversed_new _, codeAny_builtin F.entry_reversed_new ?_⟩))
  rw [Around.under_plainId F.plain_reversed_new _]
  unfold Builtin.«reversed.__new__»
  refine wpAny_bind (wpAny_of_eq (newClass_reversed _) ?_)
  try dsimp only
  refine wpAny_bind (wpAny_of_eq (a := ()) (by first | rfl | kernel_rfl) ?_)
  refine wpAny_bind (wpAny_of_eq (a := ()) (by first | rfl | kernel_rfl) ?_)
  try dsimp only
  refine wpAny_bind (wpAny_specialOf hT F.slot_range_reversed.lookup ?_)
  try dsimp only
  refine wpAny_bind (wpAny_of_eq (F.slot_range_reversed.bind _) ?_)
  try dsimp only
  first
  | rw [if_neg (show ¬ ((Value.builtin "range.__reversed__" == Value.none) = true) from Bool.false_ne_true)]
  | (show wpAny _ _ (if (Value.builtin "range.__reversed__" == Value.none) = true then _ else _) _ _ _; rw [if_neg (show ¬ ((Value.builtin "range.__reversed__" == Value.none) = true) from Bool.false_ne_true)])
  refine wpAny_bind (wpAny_rule ?_)
  refine wpAny_bind (m := runValue (.call (.builtin "range.__reversed__") ⟨[.ref r], []⟩)) (show wpAny _ _ (call (.builtin "range.__reversed__") [.ref r]) _ _ _ from call_range_reversed hr hn hsmall ?_)
  first
  | exact wpAny_pure h
  | exact wpAny_bind (wpAny_pure (wpAny_pure h))
theorem call_reversed_range {r : Addr} {a b c n : Int} {t u v : Tok} {Q : Value → Shared → Prop} (hr : IsRange s.heap r a b c t u v) (hn : Builtin.Range.rangeSize a b c = n)
    (hsmall : (Builtin.Range.rangeFitsLong a && Builtin.Range.rangeFitsLong b && Builtin.Range.rangeFitsLong c && Builtin.Range.rangeFitsLong (-c) && Builtin.Range.rangeFitsLong (a - c) && Builtin.Range.rangeFitsLong n) = true)
    (h : Q (.ref s.heap.objs.size) { s with heap := s.heap.push (riObj (a + (n - 1) * c) n (-c)) }) : wpAny (model prog w) A (call (.type "reversed") [.ref r]) Q E s := by
  refine callType_other (U := "range_iterator") (Q₁ := fun obj s₁ => obj = .ref s.heap.objs.size ∧ s₁ = { s with heap := s.heap.push (riObj (a + (n - 1) * c) n (-c)) }) (by decide +kernel) F.create_reversed ⟨_, _, F.mro_reversed⟩ F.made_reversed sub_ri_reversed (F.typeCall_reversed_1 _) (code_reversed_new_range hr hn hsmall ⟨rfl, rfl⟩) ?_
  rintro obj s₁ ⟨rfl, rfl⟩
  exact ⟨⟨_, Heap.get?_push_size _ rfl, rfl⟩, h⟩
theorem pyIter_ri {it : Addr} {x n c : Int} {Q : Value → Shared → Prop} (hit : s.heap.get? it = some (riObj x n c)) (h : Q (.ref it) s) : wpAny (model prog w) A (pyIter (.ref it)) Q E s := by
  have hT : s.TypeIs (.ref it) "range_iterator" := ⟨_, hit, rfl⟩
  refine wpAny_pyIter_slot hT F.slot_range_iterator_iter (wpAny_call_entry F.slot_range_iterator_iter hT F.entry_range_iterator_iter ?_ (F.args_range_iterator_iter_1 _))
  show wpAny _ _ (ret (.ref it)) _ _ s
  exact wpAny_pure ⟨_, rfl, "range_iterator", _, hT, F.slot_range_iterator_next.lookup, h⟩
theorem hint_ri {it : Addr} {x n c : Int} {Q : Bool → Shared → Prop} (hit : s.heap.get? it = some (riObj x n c)) (hn : n.toNat ≤ 1000) (h : ∀ k, Q false { s with toks := k }) : wpAny (model prog w) A (Builtin.List.listLengthHint (.ref it)) Q E s := by
  have hT : s.TypeIs (.ref it) "range_iterator" := ⟨_, hit, rfl⟩
  unfold Builtin.List.listLengthHint
  refine wpAny_bind (wpAny_specialOf hT ri_no_len ?_)
  refine wpAny_ite_false (by rfl) ?_
  refine wpAny_ite_false (by rfl) ?_
  refine wpAny_bind (wpAny_specialOf hT F.slot_range_iterator_length_hint.lookup ?_)
  dsimp only
  generalize hid : ("range_iterator.__length_hint__" : String) = id0
  rw [show splitId id0 = some ("range_iterator", "__length_hint__") from by subst hid; decide +kernel]
  subst hid
  refine wpAny_bind (wpAny_isInstance (T := "range_iterator") (b := true) hT (by rw [isSubtype_type]; kernel_rfl) ?_)
  refine wpAny_ite_false (by rfl) ?_
  refine wpAny_ite_true (by decide +kernel) ?_
  refine wpAny_ite_true (by decide +kernel) ?_
  refine wpAny_bind (wpAny_call_entry F.slot_range_iterator_length_hint hT F.entry_range_iterator_length_hint ?_ (F.args_range_iterator_length_hint_1 _))
  unfold Builtin.«range_iterator.__length_hint__»
  refine wpAny_bind (wpAny_of_eq (a := Value.ref it) rfl ?_)
  refine wpAny_bind (m := field (.ref it) 1) (wpAny_field hit rfl rfl ?_)
  refine wpAny_bind (wpAny_mkInt (wpAny_pure ⟨_, rfl, ?_⟩))
  refine wpAny_bind (wpAny_of_eq (a := some n) rfl ?_)
  have htl : Builtin.List.listTooLong n.toNat = false := by simp [Builtin.List.listTooLong, sizeLine]; omega
  refine wpAny_ite_false (by rw [htl]; rfl) ?_
  exact wpAny_pure (h _)
theorem extend_ri {R : Result → Shared → Prop} {it : Addr} {a c : Int} {n : Nat} (hh : A.handled = none) (hit : s.heap.get? it = some (riObj a n c)) (hlen : n ≤ 1000) (S : Addr) (res : Value) (c₀ : Nat) (hS : s.heap.get? S = some { cls := .type "list", data := .seq #[] c₀ })
    (hR : ∀ h' tk acc' c', (∀ b o, b ≠ S → b ≠ it → s.heap.get? b = some o → h'.get? b = some o) → h'.get? S = some { cls := .type "list", dict := none, data := .seq acc' c', slots := #[] } →
      ItemsOf (fun i v => ∃ t, v = .int (a + i * c) t) acc' n → R (.ok (.ret res)) { s with heap := h', toks := tk }) :
    wpAny (model prog w) A.in1 (Builtin.List.listExtendWith (.ref S) (.ref it) res)
      (fun fin s' => match fin with | .done f => R (.ok f) s' | .again c' => c'.quiet = true ∧ codeAny (model prog w) A c' R s') (fun e s' => R (.error e) s') s := by
  have hSr : S ≠ it := fun e => by rw [e, hit] at hS; simp at hS
  have hSf : S ∉ [it] := fun hm => hSr (List.mem_singleton.mp hm)
  have W := (Walks.range (prog := prog) (w := w) (A := A.in1) hh it a c n).toS
  have key : ∀ (tk : Nat), codeAny (model prog w) A (.builtin "list.extend.loop" ⟨[.ref S, .ref it, res], []⟩) R { s with toks := tk } := by
    intro tk
    have hit0 : IsRangeIter s.heap it (a + ((0 : Nat) : Int) * c) ((n : Int) - ((0 : Nat) : Int)) c := by
      show IsRangeIter _ _ _ _ _; simpa using hit
    refine codeAny_extend_loopS W (by rw [sizeLine_eq]; omega) S hSf res n 0 { s with toks := tk } #[] c₀ rfl (Nat.zero_le _) hit0 hS (ItemsOf.nil _) fun s' acc' c' hm hS' hacc => ?_
    rw [Moved.eq_with hm]
    refine hR s'.heap s'.toks acc' c' (fun b o hb hb' e => hm.heap b o (fun hmem => ?_) e) hS' hacc
    rcases List.mem_cons.mp hmem with e' | hmem
    · exact hb e'
    · exact hb' (List.mem_singleton.mp hmem)
  unfold Builtin.List.listExtendWith
  refine wpAny_bind (wpAny_typeOf (T := "range_iterator") ⟨_, hit, rfl⟩ ?_)
  have h1 : Builtin.List.listSameRef (.ref S) (.ref it) = false := by simp [Builtin.List.listSameRef, hSr]
  have h2 : (Value.type "range_iterator" == Value.type "list") = false := by decide
  have h3 : (Value.type "range_iterator" == Value.type "tuple") = false := by decide
  simp only [h1, h2, h3, Bool.or_false, Bool.false_eq_true, if_false]
  refine wpAny_bind (pyIter_ri hit ?_)
  refine wpAny_bind (wpAny_holding (hint_ri hit (by omega) fun k => ?_))
  refine wpAny_ite_split (fun hab => absurd hab (by decide)) (fun _ => wpAny_pure ⟨plainId_quiet F.plain_extend_loop _, key _⟩)
theorem list_init_ri {R : Result → Shared → Prop} {it : Addr} {a c : Int} {n : Nat} (hh : A.handled = none) (hit : s.heap.get? it = some (riObj a n c)) (hlen : n ≤ 1000) (S : Addr) (hS : s.heap.get? S = some { cls := .type "list", data := .seq #[] })
    (hR : ∀ h' tk acc' c', (∀ b o, b ≠ S → b ≠ it → s.heap.get? b = some o → h'.get? b = some o) → h'.get? S = some { cls := .type "list", dict := none, data := .seq acc' c', slots := #[] } →
      ItemsOf (fun i v => ∃ t, v = .int (a + i * c) t) acc' n → R (.ok (.ret .none)) { s with heap := h', toks := tk }) :
    wpAny (model prog w) A.in1 (Builtin.«list.__init__» ⟨[.ref S, .ref it], []⟩)
      (fun fin s' => match fin with | .done f => R (.ok f) s' | .again c' => c'.quiet = true ∧ codeAny (model prog w) A c' R s') (fun e s' => R (.error e) s') s := by
  have hSr : S ≠ it := fun e => by rw [e, hit] at hS; simp at hS
  show wpAny _ _ (do let old ← Builtin.List.listItems (.ref S); Builtin.List.listUpdate (.ref S) (fun _ => #[]); letGo old.toList.reverse; Builtin.List.listExtendWith (.ref S) (.ref it) .none) _ _ s
  refine wpAny_bind ?_
  unfold Builtin.List.listItems
  refine wpAny_bind (wpAny_seqItems hS rfl (wpAny_pure ?_))
  show wpAny _ _ (updateSeq S (fun _ => #[]) >>= fun _ => letGo (#[] : Array Value).toList.reverse >>= fun _ => Builtin.List.listExtendWith (.ref S) (.ref it) .none) _ _ s
  refine wpAny_bind (wpAny_updateSeq hS rfl ?_)
  have hS₂ := Heap.get?_update_self (Obj.mapSeq (fun _ => (#[] : Array Value))) hS rfl
  have oth : ∀ b o, b ≠ S → s.heap.get? b = some o → (s.heap.update S (Obj.mapSeq (fun _ => (#[] : Array Value)))).get? b = some o :=
    fun b o hb e => (Heap.get?_update_other _ _ (Ne.symm hb)).trans e
  refine wpAny_bind (wpAny_letGo ?_)
  refine extend_ri hh (oth it _ (Ne.symm hSr) hit) hlen S .none _ hS₂ fun h' tk acc' c' hk hS' hacc => ?_
  exact hR h' tk acc' c' (fun b o hb hb' e => hk b o hb hb' (oth b o hb e)) hS' hacc
theorem call_list_ri {Q : Value → Shared → Prop} {it : Addr} {a c : Int} {n : Nat} (hh : A.handled = none) (hit : s.heap.get? it = some (riObj a n c)) (hlen : n ≤ 1000)
    (hQ : ∀ h' tk acc' c', (∀ b o, b ≠ it → s.heap.get? b = some o → h'.get? b = some o) →
      h'.get? s.heap.objs.size = some { cls := .type "list", dict := none, data := .seq acc' c', slots := #[] } → ItemsOf (fun i v => ∃ t, v = .int (a + i * c) t) acc' n → Q (.ref s.heap.objs.size) { s with heap := h', toks := tk }) :
    wpAny (model prog w) A (call (.type "list") [.ref it]) Q E s := by
  refine callType_codes (Q₁ := fun obj s₁ => obj = .ref s.heap.objs.size ∧ s₁ = { s with heap := s.heap.push { cls := .type "list", data := .seq #[] } }) F.called_list (F.typeCall_list_1 _) F.entry_list_init
    (code_list_new _ ⟨rfl, rfl⟩) fun obj s₁ h₁ => ?_
  obtain ⟨rfl, rfl⟩ := h₁
  have hS : (s.heap.push { cls := .type "list", data := .seq #[] }).get? s.heap.objs.size = some { cls := .type "list", data := .seq #[] } := Heap.get?_push_size _ rfl
  refine ⟨⟨_, hS, rfl⟩, F.args_list_init_2 _ _, list_init_ri (A := A.in1) hh (Heap.get?_push_of_some _ hit) hlen _ hS fun h' tk acc' c' hk hS' hacc => ?_⟩
  exact ⟨rfl, hQ h' tk acc' c' (fun b o hb e => hk b o (Nat.ne_of_lt (Heap.lt_size e)) hb (Heap.get?_push_of_some _ e)) hS' hacc⟩
end
section
variable {prog : Program} {w : World} {A : Around} {E : Value → Shared → Prop} {s : Shared} {h₀ : Heap} {L : Addr} {m : Str → Option Value} {news : List (Addr × Obj)}
theorem revr_K {r : Addr} {n : Int} {t u v : Tok} {Q : Value → Shared → Prop} (F : Fr h₀ L s.heap m) (N : News h₀ L s.heap news) (hr : IsRange s.heap r n 0 (-8) t u v) (h1 : 1 ≤ n) (h2 : n ≤ 16)
    (hA : n ≤ 8 → ∀ D h', Fr h₀ L h' m → News h₀ L h' ((D, riObj n ((1 : Nat) : Int) 8) :: news) → (∀ p ∈ news, p.1 < D) → Q (.ref D) { s with heap := h' })
    (hB : 8 < n → ∀ D h', Fr h₀ L h' m → News h₀ L h' ((D, riObj (n - 8) ((2 : Nat) : Int) 8) :: news) → (∀ p ∈ news, p.1 < D) → Q (.ref D) { s with heap := h' }) :
    wpAny (model prog w) A (call (.type "reversed") [.ref r]) Q E s := by
  have fits : ∀ i : Int, -100 ≤ i → i ≤ 100 → Builtin.Range.rangeFitsLong i = true := fun i h1 h2 => by
    unfold Builtin.Range.rangeFitsLong
    rw [decide_eq_true (by omega), decide_eq_true (by omega)]
    rfl
  by_cases h8 : n ≤ 8
  · have e : Builtin.Range.rangeSize n 0 (-8) = 1 := by
      unfold Builtin.Range.rangeSize
      rw [if_neg (by decide), if_pos (by omega)]
      show (n - 0 - 1) / 8 + 1 = 1
      omega
    refine call_reversed_range hr e (by rw [fits n (by omega) (by omega), fits 0 (by decide) (by decide), fits (-8) (by decide) (by decide), fits (-(-8)) (by decide) (by decide), fits (n - -8) (by omega) (by omega), fits 1 (by decide) (by decide)]; rfl) ?_
    have e2 : riObj (n + (1 - 1) * -8) 1 (-(-8)) = riObj n ((1 : Nat) : Int) 8 := by
      rw [show n + (1 - 1) * -8 = n by omega]
      rfl
    rw [e2]
    exact hA h8 _ _ (F.push _) (N.push F _ rfl) fun p hp => Heap.lt_size (N p hp).1
  · have e : Builtin.Range.rangeSize n 0 (-8) = 2 := by
      unfold Builtin.Range.rangeSize
      rw [if_neg (by decide), if_pos (by omega)]
      show (n - 0 - 1) / 8 + 1 = 2
      omega
    refine call_reversed_range hr e (by rw [fits n (by omega) (by omega), fits 0 (by decide) (by decide), fits (-8) (by decide) (by decide), fits (-(-8)) (by decide) (by decide), fits (n - -8) (by omega) (by omega), fits 2 (by decide) (by decide)]; rfl) ?_
    have e2 : riObj (n + (2 - 1) * -8) 2 (-(-8)) = riObj (n - 8) ((2 : Nat) : Int) 8 := by
      rw [show n + (2 - 1) * -8 = n - 8 by omega]
      rfl
    rw [e2]
    exact hB (by omega) _ _ (F.push _) (N.push F _ rfl) fun p hp => Heap.lt_size (N p hp).1
theorem list_riN {it : Addr} {a c : Int} {n : Nat} {Q : Value → Shared → Prop} (hh : A.handled = none) (F : Fr h₀ L s.heap m) (N : News h₀ L s.heap ((it, riObj a n c) :: news)) (hnn : ∀ p ∈ news, p.1 ≠ it) (hlen : n ≤ 1000)
    (h : ∀ D c' h' tk acc, Fr h₀ L h' m → News h₀ L h' ((D, listOf acc c') :: news) → (∀ p ∈ news, p.1 < D) → ItemsOf (fun i v => ∃ t, v = .int (a + i * c) t) acc n → Q (.ref D) { s with heap := h', toks := tk }) :
    wpAny (model prog w) A (call (.type "list") [.ref it]) Q E s := by
  have n1 := N _ (List.mem_cons_self ..)
  refine call_list_ri hh n1.1 hlen fun h' tk acc c' hk hD hI => ?_
  have hL' : L ≠ it := fun e => n1.2.1 e.symm
  have F' : Fr h₀ L h' m := ⟨F.ns.at fun o e => hk _ _ hL' e, fun b o e => hk b o (fun q => by rw [q, n1.2.2] at e; cases e) (F.keep b o e), F.above⟩
  refine h _ c' h' tk acc F' (fun p hp => ?_) (fun p hp => Heap.lt_size (N p (List.mem_cons_of_mem _ hp)).1) hI
  rcases List.mem_cons.mp hp with rfl | hp
  · refine ⟨hD, ?_, ?_⟩
    · obtain ⟨oL, _, _, hL, _⟩ := F.ns
      exact Nat.ne_of_gt (Heap.lt_size hL)
    · cases e : h₀.get? s.heap.objs.size with
      | none => rfl
      | some o => exact absurd (Heap.lt_size (F.keep _ _ e)) (Nat.lt_irrefl _)
  · have q := N p (List.mem_cons_of_mem _ hp)
    exact ⟨hk _ _ (hnn p hp) q.1, q.2⟩
theorem list_ri1 {it : Addr} {a c : Int} {Q : Value → Shared → Prop} (hh : A.handled = none) (F : Fr h₀ L s.heap m) (N : News h₀ L s.heap ((it, riObj a ((1 : Nat) : Int) c) :: news)) (hnn : ∀ p ∈ news, p.1 ≠ it)
    (h : ∀ D c' h' tk t0, Fr h₀ L h' m → News h₀ L h' ((D, listOf #[.int a t0] c') :: news) → (∀ p ∈ news, p.1 < D) → Q (.ref D) { s with heap := h', toks := tk }) :
    wpAny (model prog w) A (call (.type "list") [.ref it]) Q E s :=
  list_riN hh F N hnn (by decide) fun D c' h' tk acc F' N' l hI => by
    obtain ⟨acc⟩ := acc
    obtain ⟨hs, hi⟩ := hI
    match acc, hs with
    | [v], _ =>
      obtain ⟨t, e⟩ := hi 0 v rfl
      subst e
      have e2 : a + ((0 : Nat) : Int) * c = a := by rw [Int.natCast_zero, Int.zero_mul, Int.add_zero]
      rw [e2] at N'
      exact h D c' h' tk t F' N' l
theorem list_ri2 {it : Addr} {a c : Int} {Q : Value → Shared → Prop} (hh : A.handled = none) (F : Fr h₀ L s.heap m) (N : News h₀ L s.heap ((it, riObj a ((2 : Nat) : Int) c) :: news)) (hnn : ∀ p ∈ news, p.1 ≠ it)
    (h : ∀ D c' h' tk t0 t1, Fr h₀ L h' m → News h₀ L h' ((D, listOf #[.int a t0, .int (a + c) t1] c') :: news) → (∀ p ∈ news, p.1 < D) → Q (.ref D) { s with heap := h', toks := tk }) :
    wpAny (model prog w) A (call (.type "list") [.ref it]) Q E s :=
  list_riN hh F N hnn (by decide) fun D c' h' tk acc F' N' l hI => by
    obtain ⟨acc⟩ := acc
    obtain ⟨hs, hi⟩ := hI
    match acc, hs with
    | [v, v'], _ =>
      obtain ⟨t, e⟩ := hi 0 v rfl
      obtain ⟨t', e'⟩ := hi 1 v' rfl
      subst e e'
      have e2 : a + ((0 : Nat) : Int) * c = a := by rw [Int.natCast_zero, Int.zero_mul, Int.add_zero]
      have e3 : a + ((1 : Nat) : Int) * c = a + c := by rw [Int.natCast_one, Int.one_mul]
      rw [e2, e3] at N'
      exact h D c' h' tk t t' F' N' l
end
end Mine

end
section
open PySem PySem.W PySem.Calls PyProof.Rows Builtin Builtin.Str
namespace Mine
set_option maxRecDepth 100000
theorem flat_le (k : Nat) : ∀ l : List (Array Nat), (∀ a ∈ l, a.size ≤ k) → (l.map (·.toList)).flatten.length ≤ k * l.length
  | [], _ => by simp
  | a :: r, h => by
    have h1 := h a (List.mem_cons_self ..)
    have h2 := flat_le k r fun b hb => h b (List.mem_cons_of_mem _ hb)
    rw [List.map_cons, List.flatten_cons, List.length_append, List.length_cons, Nat.mul_succ, Array.length_toList]
    omega
theorem several_le : UnicodeData.severalUpper.all (fun p => decide (p.2.length ≤ 3)) = true := by decide +kernel
theorem lookup_le {k : Nat} : ∀ {l : List (Nat × List Nat)} {c : Nat} {x : List Nat}, l.all (fun p => decide (p.2.length ≤ k)) = true → l.lookup c = some x → x.length ≤ k
  | [], _, _, _, e => by cases e
  | p :: r, c, x, h, e => by
    rw [List.all_cons, Bool.and_eq_true] at h
    obtain ⟨a, b⟩ := p
    rw [List.lookup_cons] at e
    split at e
    · cases e
      exact of_decide_eq_true h.1
    · exact lookup_le h.2 e
theorem upperOf_le (c : Nat) : (Unicode.upperOf c).length ≤ 3 := by
  unfold Unicode.upperOf Unicode.image
  split
  · rename_i x e
    exact lookup_le several_le e
  · exact Nat.le_of_ble_eq_true rfl
theorem upper_le (x : Str) : (Txt.upper x).length ≤ 3 * x.length := by
  show (placed x fun _ c => Unicode.upperOf c).size ≤ 3 * x.cps.size
  unfold placed
  rw [← Array.length_toList, Array.toList_flatten]
  refine Nat.le_trans (flat_le 3 _ fun a ha => ?_) ?_
  · rw [Array.mem_toList_iff] at ha
    obtain ⟨i, hi, rfl⟩ := Array.mem_mapIdx.mp ha
    rw [List.size_toArray]
    exact upperOf_le _
  · rw [Array.length_toList, Array.size_mapIdx]
    exact Nat.le_refl _
theorem join_le (sep : Str) (l : List Str) : (Txt.join sep l).length ≤ (l.map (·.length)).sum + l.length * sep.length := by
  show (glued sep l).length ≤ _
  rw [StrLaws.glued_eq_join]
  exact StrLaws.join_length_le sep l
theorem app16 {X : Str} (h : X.length ≤ 16) (hn : (X.length : Int) % 2 ≠ 0) : (Str.ofString "0" ++ X).length ≤ 16 := by
  have e1 : (Str.ofString "0").length = 1 := rfl
  rw [Str.length_append]
  omega
section
variable {prog : Program} {w : World} {A : Around} {E : Value → Shared → Prop} {s : Shared} {h₀ : Heap} {L : Addr} {m : Str → Option Value} {news : List (Addr × Obj)} {Q : Value → Shared → Prop}
theorem upper_any {x : Str} {t : Tok} (hx : x.length ≤ 100) (h : ∀ z t' k, z.length ≤ 300 → Q (.str z t') { s with toks := k }) : wpAny (model prog w) A (call (.builtin "str.upper") [.str x t]) Q E s := by
  have hu := upper_le x
  refine KXw.upper rfl ?_ fun t' k => h _ t' k (by omega)
  unfold tooLong
  rw [sizeLine_eq]
  exact decide_eq_false (by omega)
theorem join1 {D : Addr} {a : Str} {t0 t : Tok} (N : News h₀ L s.heap news) (hm : (D, LCg.lst [.str a t0]) ∈ news) (ha : a.length ≤ 16) (h : ∀ z t' k, z.length ≤ 100 → Q (.str z t') { s with toks := k }) :
    wpAny (model prog w) A (call (.builtin "str.join") [.str (Str.ofString " ") t, .ref D]) Q E s := by
  have e1 : (Str.ofString " ").length = 1 := rfl
  have hl := join_le (Str.ofString " ") [a]
  simp only [List.map_cons, List.map_nil, List.sum_cons, List.sum_nil, List.length_cons, List.length_nil, e1] at hl
  exact join_list ⟨_, N.get hm, rfl, _, rfl⟩ (.cons a t0 .nil) (by simp only [List.map_cons, List.map_nil, List.sum_cons, List.sum_nil, List.length_cons, List.length_nil, e1]; omega) fun t' k => h _ t' k (by omega)
theorem join2 {D : Addr} {a b : Str} {t0 t1 t : Tok} (N : News h₀ L s.heap news) (hm : (D, LCg.lst [.str a t0, .str b t1]) ∈ news) (ha : a.length ≤ 16) (hb : b.length ≤ 16) (h : ∀ z t' k, z.length ≤ 100 → Q (.str z t') { s with toks := k }) :
    wpAny (model prog w) A (call (.builtin "str.join") [.str (Str.ofString " ") t, .ref D]) Q E s := by
  have e1 : (Str.ofString " ").length = 1 := rfl
  have hl := join_le (Str.ofString " ") [a, b]
  simp only [List.map_cons, List.map_nil, List.sum_cons, List.sum_nil, List.length_cons, List.length_nil, e1] at hl
  exact join_list ⟨_, N.get hm, rfl, _, rfl⟩ (.cons a t0 (.cons b t1 .nil)) (by simp only [List.map_cons, List.map_nil, List.sum_cons, List.sum_nil, List.length_cons, List.length_nil, e1]; omega) fun t' k => h _ t' k (by omega)
theorem up_j1 {a : Str} {t : Tok} (ha : a.length ≤ 16) (h : ∀ z t' k, z.length ≤ 300 → Q (.str z t') { s with toks := k }) : wpAny (model prog w) A (call (.builtin "str.upper") [.str (Txt.join (Str.ofString " ") [a]) t]) Q E s := by
  have e1 : (Str.ofString " ").length = 1 := rfl
  have hl := join_le (Str.ofString " ") [a]
  simp only [List.map_cons, List.map_nil, List.sum_cons, List.sum_nil, List.length_cons, List.length_nil, e1] at hl
  exact upper_any (by omega) h
theorem up_j2 {a b : Str} {t : Tok} (ha : a.length ≤ 16) (hb : b.length ≤ 16) (h : ∀ z t' k, z.length ≤ 300 → Q (.str z t') { s with toks := k }) : wpAny (model prog w) A (call (.builtin "str.upper") [.str (Txt.join (Str.ofString " ") [a, b]) t]) Q E s := by
  have e1 : (Str.ofString " ").length = 1 := rfl
  have hl := join_le (Str.ofString " ") [a, b]
  simp only [List.map_cons, List.map_nil, List.sum_cons, List.sum_nil, List.length_cons, List.length_nil, e1] at hl
  exact upper_any (by omega) h
end
end Mine

end
section
open PySem PySem.W PySem.Calls PyProof.Rows
namespace Mine
theorem num300 {n : Int} (h0 : 0 ≤ n) (h : n < 18446744073709551616) : (PySem.Str.ofString (toString n)).length ≤ 300 :=
  Nat.le_trans (toString_length_le (k := 20) h0 (by decide) (by omega)) (by decide)
theorem and_jp {M : Model} {A : Around} {E : Value → Shared → Prop} {s : Shared} {a b : PySem.Str} {Q : Value → Shared → Prop} {r : List (Sem Value)} (k : Nat) (ha : a.length ≤ k) (hb : b.length ≤ 300) (hk : k ≤ 100000)
    (h : ∀ z : PySem.Str, z.length ≤ k + 300 → wpAny M A (joinParts z r) Q E s) : (a ++ b).length ≤ sizeLine ∧ wpAny M A (joinParts (a ++ b) r) Q E s := by
  have e : (a ++ b).length = a.length + b.length := PySem.Str.length_append a b
  refine ⟨?_, h _ (by omega)⟩
  rw [sizeLine_eq]; omega
theorem jp_nil {M : Model} {A : Around} {E : Value → Shared → Prop} {s : Shared} {out : PySem.Str} {Q : Value → Shared → Prop} (k : Nat) (hk : out.length ≤ k) (h1 : k ≤ 100000) (h : Q (.str out s.toks) { s with toks := s.toks + 1 }) : wpAny M A (joinParts out []) Q E s :=
  joinParts_nil h (by rw [sizeLine_eq]; omega)
theorem jp_nilE {M : Model} {A : Around} {E : Value → Shared → Prop} {s : Shared} {out : PySem.Str} {env : Env} {Q : Value → Shared → Prop} (k : Nat) (hk : out.length ≤ k) (h1 : k ≤ 100000) (h : Q (.str out s.toks) { s with toks := s.toks + 1 }) : wpAny M A (joinParts out (evalEach [] env)) Q E s :=
  joinParts_nilE (jp_nil k hk h1 h)
theorem ite_neI {x y : Int} {P Q : Prop} (h : x ≠ y) (q : Q) : if (x == y) = true then P else Q := by
  rw [if_neg (by simp [h])]; exact q
theorem ite_eqI {x y : Int} {P Q : Prop} (h : x = y) (p : P) : if (x == y) = true then P else Q := by
  rw [if_pos (by simp [h])]; exact p
theorem ite_decT {c : Prop} [Decidable c] {P Q : Prop} (h : c) (p : P) : if decide c = true then P else Q := by
  rw [if_pos (by simp [h])]; exact p
theorem ite_decF {c : Prop} [Decidable c] {P Q : Prop} (h : ¬ c) (q : Q) : if decide c = true then P else Q := by
  rw [if_neg (by simp [h])]; exact q
theorem ite_bneLL {b c : List UInt8} {P Q : Prop} (h : b = c) (q : Q) : if (b != c) = true then P else Q := by
  rw [if_neg (by simp [h])]; exact q
theorem ite_neN {x y : Int} {P Q : Prop} (h : x ≠ y) (p : P) : if (!(x == y)) = true then P else Q := by
  rw [if_pos (by simp [h])]; exact p
theorem ite_eqN {x y : Int} {P Q : Prop} (h : x = y) (q : Q) : if (!(x == y)) = true then P else Q := by
  rw [if_neg (by simp [h])]; exact q
section
variable {prog : Program} {w : World} {A : Around} {E : Value → Shared → Prop} {s : Shared} {h₀ : Heap} {L : Addr} {m mg : Str → Option Value} {env : Env} {x : Str} {C : Addr} {bm bmN : List Value} {newId initId nid inN : String} {B Bn : String} {np cpos pos : Pos} {Q : Flow → Shared → Prop}
/-- an own exception raised in any def's frame, one with cells too -/
theorem Raise_ownE {e₀ : Expr} {rest : List Expr} (F : Fr h₀ L s.heap m) (hg : h₀.Ns mainGlobals mg) (O : OwnCls x C bm newId mg h₀) (Fn : ExcBaseFacts Bn newId inN bmN) (hBn : bm.contains (.type Bn) = true) (FB : ExcBaseFacts B nid initId bm) (hh : A.handled = none)
    (h : wpAny (model prog w) A (spliced (backTo cpos (starEach (e₀ :: rest) env))) (fun vs s₂ => vs.length ≤ sizeLine ∧ (∀ b o, h₀.get? b = some o → s₂.heap.get? b = some o) ∧
      ∀ h' e, Heap.MadeExcOf s₂.heap h' e (.ref C) vs → E (.ref e) { s₂ with heap := h' }) E s)
    (he : starEach (e₀ :: rest) env = (false, eval e₀ env) :: starEach rest env) (hplain : (backTo cpos (starEach rest env)).any (·.1) = false)
    (hgl : env.globals = mainGlobals) (hk : env.scope.kind = .function) (hx : env.kindOf x = some .globalImplicit) (hd : (x == ("__debug__" : Str)) = false) :
    wpAny (model prog w) A (exec (.Raise (some (.Call (.Name x np) (e₀ :: rest) [] cpos)) none pos) env) Q E s := by
  obtain ⟨tl, N, nm, q, bs, hdct, sn, sub, ab, col, dd, k0, k1, k2, k3, k5, mN, hC, hN, hni, T⟩ := O.obj
  have hp : (backTo cpos (starEach (e₀ :: rest) env)).any (·.1) = false := by
    rw [he]; show (false || (backTo cpos (starEach rest env)).any (·.1)) = false; rw [hplain]; rfl
  refine wpAny_Raise_call_subU (C := C) (nm := nm) (q := q) (N := N) (bs := bs) (bm := tl) (hdct := hdct) (sn := sn) (sub := sub) (ab := ab) (col := col) (dd := dd) (k0 := k0) (k1 := k1) (k2 := k2) (k3 := k3) (k5 := k5)
    Fn hBn FB (mN := mN) (T.hasType FB.hasBase) hh hp hni (Calls.Name_function_global hk hx (Calls.loadGlobal_global (env := env) (hgl ▸ hg.keeps F.keep) O.bound ⟨rfl, ?_⟩) hd)
  rw [he] at h ⊢
  exact Calls.evalArgs_plain (wpAny_mono h (fun vs s₂ h₂ => ⟨rfl, h₂.1, h₂.2.1 _ _ hC, hN.keeps h₂.2.1, T.keeps h₂.2.1, h₂.2.2⟩) fun _ _ y => y)
end
end Mine

end
section
open PySem PySem.W PySem.Calls PyProof.Rows
namespace Mine
section
variable {M : Model} {A : Around} {E : Value → Shared → Prop} {s' : Shared} {base g h : Heap} {outer : List Env} {env : Env} {L e : Addr} {m : Str → Option Value} {Q : Unit → Shared → Prop} {news : List (Addr × Obj)}
theorem memX {b : Addr} (hf : env.frame = some L) (hm : b ∈ (env :: outer).filterMap (·.frame)) : b = L ∨ b ∈ outer.filterMap (·.frame) := by
  rw [List.filterMap_cons, hf] at hm
  exact List.mem_cons.mp hm
/-- an exception leaves the frame that made it, one with cells too -/
theorem leave_raiseSX {cls : Value} {vs : List Value} (hf : env.frame = some L) (hk : env.scope.kind = .function) (K : Below A base outer g) (hx : Heap.MadeExcOf h s'.heap e cls vs) (F : Fr g L h m) (N : News g L h news)
    (hQ : ∀ h' t, RaisedS base g outer e cls t vs news h' → RaisedK base outer e cls t vs news h' → g.UpToSlots h' → Q () { s' with heap := h' }) :
    wpAny M (A.deeper env) (leaving env (.ref e)) Q E s' := by
  have K' := pushX K F hf hk
  have hin : ∀ env' ∈ (env :: outer), ∀ b, env'.frame = some b → b ∈ (env :: outer).filterMap (·.frame) := fun env' he b hb => List.mem_filterMap.mpr ⟨env', he, hb⟩
  have st : base.StaysIn (hideAll h ((env :: outer).filterMap (·.frame))) := fun b o q => hideAll_get _ (K'.stays b o q) fun hm => by
    rw [(K'.frames.mem hm).1] at q; cases q
  have sg : ∀ b o, g.get? b = some o → b ∉ outer.filterMap (·.frame) → (hideAll h ((env :: outer).filterMap (·.frame))).get? b = some o := fun b o q nm => hideAll_get _ (F.keep b o q) fun hm => by
    rcases memX hf hm with z | z
    · rw [z, kts_self F] at q
      cases q
    · exact nm z
  have hl : ∀ q ∈ news, (hideAll h ((env :: outer).filterMap (·.frame))).get? q.1 = some q.2 ∧ g.get? q.1 = none ∧ base.get? q.1 = none := fun q hq => by
    refine ⟨hideAll_get _ (N q hq).1 fun hm => ?_, (N q hq).2.2, fresh_of_stays K.stays (N q hq).2.2⟩
    rcases memX hf hm with z | z
    · exact (N q hq).2.1 z
    · obtain ⟨o, ho, _⟩ := (K.frames.mem z).2
      rw [(N q hq).2.2] at ho; cases ho
  exact wpAny_leaves_madeW K'.stack hf (fun b o q => of_hideAll _ q) (funFrames_hide K'.frames hin) hx fun h' t x1 x2 x3 x4 =>
    have R : RaisedS base g outer e cls t vs news h' := ⟨⟨_, st, sg, hl, x1, x3⟩, x2⟩
    hQ h' t R R.toK (((Heap.UpToSlots.of_keeps F.keep).trans (Heap.UpToSlots.of_keeps hx.keeps)).trans x4)
end
end Mine

end
section
open PySem PySem.W PySem.Calls PyProof.Rows
namespace Mine
def keyB (k : Array UInt8) : Array UInt8 := (8 :: k.toList).toArray
theorem key8 (k : Array UInt8) : (((Int.toNat 8).toUInt8 : UInt8) :: k.toList).toArray = keyB k := rfl
theorem key_add {prog : Program} {w : World} {A : Around} {E : Value → Shared → Prop} {s : Shared} {x : UInt8} {c : Array UInt8} {t u : Tok} {Q : Value → Shared → Prop} (hc : c.size ≤ 100) (h : ∀ t' k, Q (.bytes (x :: c.toList).toArray t') { s with toks := k }) :
    wpAny (model prog w) A (binaryOp .Add (.bytes #[x] t) (.bytes c u)) Q E s :=
  add_B (by show 1 + c.size ≤ _; omega) fun t' k r hr _ => by
    rw [show r = (x :: c.toList).toArray from arr_ext (by rw [hr]; simp)]
    exact h t' k
/-- the key that is read back -/
theorem key_of {b k c : Array UInt8} {p : Int} (hb : ∃ r, b.toList = 8 :: (k.toList ++ r)) (hz : (k.size : Int) = 8) (hc : c.toList = (b.toList.drop p.toNat).take (Int.toNat 8)) (hp : p = 1) : c = k := by
  obtain ⟨r, hr⟩ := hb
  refine arr_ext ?_
  rw [hc, hp, hr]
  show (k.toList ++ r).take 8 = _
  rw [List.take_append_of_le_length (by rw [Array.length_toList]; omega), List.take_of_length_le (by rw [Array.length_toList]; omega)]
theorem fbl_atR {prog : Program} {w : World} {A : Around} {E : Value → Shared → Prop} {s : Shared} {h₀ : Heap} {L : Addr} {news : List (Addr × Obj)} {Q : Value → Shared → Prop} {b : Array UInt8}
    {x : Addr} {c : Array UInt8} {c0 : UInt8} {y k kk : Nat} {n : Int} {t u : Tok} (N : News h₀ L s.heap news) (hm : (x, KFB.bound) ∈ news) (hS : c.toList = (b.toList.drop y).take k) (hy : y = 1) (hk : k = kk) (hb : ∃ r, b.toList = c0 :: ((lowI n kk).toList ++ r))
    (h0 : 0 ≤ n) (h1 : n < 256 ^ kk) (hz : c.size ≤ 1000) (h : ∀ t' k, Q (.int n t') { s with toks := k }) : wpAny (model prog w) A (call (.ref x) [.bytes c t] (kwLittle u)) Q E s := by
  obtain ⟨r, hr⟩ := hb
  have e : c.toList = (lowI n kk).toList := by
    rw [hS, hr, hy, hk, List.drop_one, List.tail_cons, List.take_append_of_le_length (by rw [Array.length_toList, lowI_size]; exact Nat.le_refl _), List.take_of_length_le (by rw [Array.length_toList, lowI_size]; exact Nat.le_refl _)]
  refine call_fb_little N hm hz fun t' k' => ?_
  rw [e, nb_lowI h0 h1]
  exact h t' k'
theorem keyB_list (k : Array UInt8) : (keyB k).toList = 8 :: k.toList := rfl
theorem keyB_hd (k : Array UInt8) : ((((keyB k).toList.getD 0 0).toNat : Nat) : Int) = 8 := rfl
theorem keyB_size {k : Array UInt8} (h : (k.size : Int) = 8) : ((keyB k).size : Int) = 9 := by
  show (((8 :: k.toList).toArray.size : Nat) : Int) = 9
  rw [List.size_toArray, List.length_cons, Array.length_toList]
  omega
theorem more_add {prog : Program} {w : World} {A : Around} {E : Value → Shared → Prop} {s : Shared} {k c : Array UInt8} {t u : Tok} {Q : Value → Shared → Prop} (hk : (k.size : Int) = 8) (hc : c.size ≤ 4) (h : ∀ t' k' (r : Array UInt8), r.toList = 8 :: (k.toList ++ c.toList) → r.size = 9 + c.size → Q (.bytes r t') { s with toks := k' }) :
    wpAny (model prog w) A (binaryOp .Add (.bytes (keyB k) t) (.bytes c u)) Q E s :=
  add_B (by have := keyB_size hk; omega) fun t' k' r hr hz => h t' k' r (by rw [hr]; rfl) (by have := keyB_size hk; omega)
theorem add3 {prog : Program} {w : World} {A : Around} {E : Value → Shared → Prop} {s : Shared} {x y z : UInt8} {c : Array UInt8} {t u : Tok} {Q : Value → Shared → Prop} (hc : c.size ≤ 100) (h : ∀ t' k, Q (.bytes (x :: y :: z :: c.toList).toArray t') { s with toks := k }) :
    wpAny (model prog w) A (binaryOp .Add (.bytes #[x, y, z] t) (.bytes c u)) Q E s :=
  add_B (by show 3 + c.size ≤ _; omega) fun t' k r hr _ => by
    rw [show r = (x :: y :: z :: c.toList).toArray from arr_ext (by rw [hr]; simp)]
    exact h t' k
theorem cons_size {x : UInt8} {k : Array UInt8} (h : (k.size : Int) = 8) : (((x :: k.toList).toArray.size : Nat) : Int) = 9 := by
  rw [List.size_toArray, List.length_cons, Array.length_toList]; omega
theorem cons3_size {x y z : UInt8} {k : Array UInt8} (h : (k.size : Int) = 8) : (((x :: y :: z :: k.toList).toArray.size : Nat) : Int) = 11 := by
  rw [List.size_toArray, List.length_cons, List.length_cons, List.length_cons, Array.length_toList]; omega
theorem low8 : (lowI 8 2).toList = [8, 0] := by decide +kernel
theorem hd_of {r : Array UInt8} {l : List UInt8} (h : r.toList = 8 :: l) : (((r.toList.getD 0 0).toNat : Nat) : Int) = 8 := by rw [h]; rfl
end Mine

end
section
open PySem PySem.W PySem.Calls PyProof.Rows
namespace Mine
set_option maxRecDepth 100000
theorem ite_bneII {x y : Int} {P Q : Prop} (h : x = y) (q : Q) : if (x != y) = true then P else Q := by
  rw [if_neg (by simp [h])]; exact q
theorem ite_bneIn {x y : Int} {P Q : Prop} (h : x ≠ y) (p : P) : if (x != y) = true then P else Q := by
  rw [if_pos (by simp [h])]; exact p
section
variable {prog : Program} {w : World} {A : Around} {E : Value → Shared → Prop} {s : Shared} {env : Env} {g : Heap} {L c : Addr} {oc : Obj} {m : Str → Option Value} {news : List (Addr × Obj)}
theorem none_at (F : Fr g L s.heap m) {b : Addr} (hb : L ≤ b) : g.get? b = none := by
  cases q : g.get? b with
  | none => rfl
  | some o => exact absurd (Nat.lt_of_lt_of_le (Heap.lt_size q) (Nat.le_trans F.above hb)) (Nat.lt_irrefl _)
/-- an iterator over a range, the ledger cut down to one cell -/
theorem iterC {r : Addr} {lo hi : Int} {t u v : Tok} {k : Int} {Q : Value → Shared → Prop} (hr : IsRange s.heap r lo hi 1 t u v) (hsm : Builtin.Range.small lo hi 1 = true) (hk : Builtin.Range.rangeSize lo hi 1 = k)
    (F : Fr g L s.heap m) (N : News g L s.heap news) (hc : (c, oc) ∈ news)
    (h : ∀ I h', Fr g L h' m → News g L h' ((I, itR lo k) :: (c, oc) :: []) → c < I → Q (.ref I) { s with heap := h' }) : wpAny (model prog w) A (pyIter (.ref r)) Q E s := by
  refine wpAny_pyIter_range hr hsm ?_
  rw [hk]
  have hLI : L < s.heap.objs.size := F.ns.lt
  refine h _ _ (F.push _) (fun p hp => ?_) (Heap.lt_size (N _ hc).1)
  rcases List.mem_cons.mp hp with rfl | hp
  · exact ⟨Heap.get?_push_size _ rfl, Ne.symm (Nat.ne_of_lt hLI), none_at F (Nat.le_of_lt hLI)⟩
  · rw [List.mem_singleton.mp hp]
    exact ⟨Heap.get?_push_of_some _ (N _ hc).1, (N _ hc).2⟩
/-- a turn of a for over a range -/
theorem forC_turn {R : Result → Shared → Prop} {x : Str} {px : Pos} {body orelse : List Stmt} {I : Addr} {a k : Int} (hl : env.locals = L) (hx : env.kindOf x = some .local) (hp : (env.scope.kind == .class || (env.scope.kind == .module && env.locals != env.globals)) = false)
    (F : Fr g L s.heap m) (N : News g L s.heap news) (hI : (I, itR a k) ∈ news) (hc : (c, oc) ∈ news) (hcI : c < I) (hk : 0 < k)
    (h : ∀ h' t tk, Fr g L h' (fun y => if y = x then some (.int a t) else m y) → News g L h' ((I, itR (a + 1) (k - 1)) :: (c, oc) :: []) →
      wpC (model prog w) A (execs body env) (fun f s₃ => match f with
        | .next | .cont => codeC (model prog w) A (.forLoop (.Name x px) (.ref I) body orelse env) R s₃
        | .brk => R (.ok .next) s₃
        | .ret v => R (.ok (.ret v)) s₃) (notedBy (model prog w) A env fun e s' => R (.error e) s') { s with heap := h', toks := tk }) :
    codeC (model prog w) A (.forLoop (.Name x px) (.ref I) body orelse env) R s := by
  subst hl
  refine codeC_forTurn (wpAny_pyNext_range_item (x := a) (left := k) (step := 1) (N _ hI).1 hk fun h₁ hit hs => ?_)
  have F₁ : Fr g env.locals h₁ m := F.change hs (N _ hI).2.1 (N _ hI).2.2
  have e₁ : h₁.get? c = some oc := hs.extBut _ _ (Nat.ne_of_lt hcI) (N _ hc).1
  refine wpAny_pure (wpAny_assign_Name (wpAny_storeName_local hx F₁.ns (fun h₂ hn₂ hs₂ => ?_) hp))
  have hL₀ : g.get? env.locals = none := Heap.get?_none_of_le F₁.above
  refine h h₂ _ _ ⟨hn₂, fun b o e => hs₂.extBut b o (fun q => by rw [q, hL₀] at e; cases e) (F₁.keep b o e), F₁.above⟩ (fun p hp => ?_)
  rcases List.mem_cons.mp hp with rfl | hp
  · exact ⟨hs₂.extBut _ _ (N _ hI).2.1 hit, (N _ hI).2⟩
  · rw [List.mem_singleton.mp hp]
    exact ⟨hs₂.extBut _ _ (N _ hc).2.1 e₁, (N _ hc).2⟩
/-- the end of a for over a range -/
theorem forC_end {R : Result → Shared → Prop} {x : Str} {px : Pos} {body : List Stmt} {I : Addr} {a k : Int} (hh : A.handled = none) (F : Fr g L s.heap m) (N : News g L s.heap news) (hI : (I, itR a k) ∈ news) (hc : (c, oc) ∈ news) (hcI : c < I) (hk : k ≤ 0)
    (h : ∀ h', Fr g L h' m → News g L h' ((c, oc) :: []) → R (.ok .next) { s with heap := h' }) :
    codeC (model prog w) A (.forLoop (.Name x px) (.ref I) body [] env) R s := by
  refine codeC_forTurn (wpAny_pyNext_range_end (x := a) (left := k) (step := 1) hh (N _ hI).1 hk fun h₁ hs => ?_)
  have F₁ : Fr g L h₁ m := ⟨by
    obtain ⟨oL, a1, a2, hoL, a3⟩ := F.ns
    exact ⟨oL, a1, a2, hs _ _ (Ne.symm (N _ hI).2.1) hoL, a3⟩, fun b o e => hs b o (fun q => by rw [q, (N _ hI).2.2] at e; cases e) (F.keep b o e), F.above⟩
  refine wpAny_execs_nil (h _ F₁ fun p hp => ?_)
  rw [List.mem_singleton.mp hp]
  exact ⟨hs _ _ (Nat.ne_of_lt hcI) (N _ hc).1, (N _ hc).2⟩
end
end Mine

end
section
open PySem PySem.W PySem.Calls PyProof.Rows
namespace Mine
set_option maxRecDepth 100000
section
variable {prog : Program} {w : World} {A : Around} {s : Shared} {R : Result → Shared → Prop} {name : Str} {params : Arguments} {body : List Stmt} {scope : Scope} {pm cd doc dV kV : Value} {f : Addr} {o : Obj} {args : Args} {binds : List (Str × Value)}
/-- the law's own def is entered -/
theorem code_topC (ho : s.heap.get? f = some o) (hd : o.data = .func { docDef name params body scope pm cd doc with defaults := dV, kwdefaults := kV }) (hcd : s.heap.CodeRec cd name) (hlim : s.heap.NoLimit) (hroom : A.depth < recursionLimit)
    (hbind : BindsTo s { docDef name params body scope pm cd doc with defaults := dV, kwdefaults := kV } args binds) (hkind : (binds.all fun y => scope.names.lookup y.1 == some .local || scope.names.lookup y.1 == some .cell) = true)
    (hnd : ((cellsFrom 0 scope.names []).map (·.1)).Nodup)
    (h : ∀ L' h₁ tk cells, Fr s.heap L' h₁ (bindL (envOfC name scope L' f cd).kindOf binds fun _ => none) → News s.heap L' h₁ (cells ++ []) →
      CellsAre (bindC (envOfC name scope L' f cd).kindOf binds fun _ => none) (cellsFrom (L' + 1) scope.names []) cells →
      wpC (model prog w) (A.deeper (envOfC name scope L' f cd)) (execs body (envOfC name scope L' f cd)) (fun fl s' => R (.ok (.ret (match fl with | .ret v => v | _ => .none))) s')
        (fun e s' => wpAny (model prog w) (A.deeper (envOfC name scope L' f cd)) (leaving (envOfC name scope L' f cd) e) (fun _ s'' => R (.error e) s'') (fun e' s'' => R (.error e') s'') s')
        { s with heap := h₁, toks := tk })
    (hco : scope.isCoroutine = false) (hgen : scope.isGenerator = false) (hk : scope.kind = .function) : codeC (model prog w) A (.call (.ref f) args) R s := by
  refine codeC_call_function hroom ho hd hco hgen rfl hcd (hbind _ _ _ _ ?_)
  refine wpAny_newFunctionEnv_cells hk (kindsX hkind _) fun env' he s' x => ?_
  subst he
  refine ⟨hlim.keeps x.toInCall.keep, codeC_func ?_⟩
  obtain ⟨h₁, tk, rfl, _⟩ := x.done
  have hk₁ := x.toInCall.keep
  obtain ⟨cells, NC, Y⟩ := Cl.news (h₀ := s.heap) (Nat.le_refl _) fun n c hm => ⟨x.cell n c (lookup_of_mem_nodup (cellsFrom_names scope.names 0 (s.heap.objs.size + 1) [] [] rfl ▸ hnd) hm), x.above n c hm⟩
  exact h s.heap.objs.size h₁ tk cells ⟨x.toInCall.ns, hk₁, Nat.le_refl _⟩ (by rw [List.append_nil]; exact NC) Y
end
theorem fr_ext {g h : Heap} {L : Addr} {m m' : Str → Option Value} (F : Fr g L h m) (e : ∀ z, m z = m' z) : Fr g L h m' := (funext e) ▸ F
theorem fr_script {g h : Heap} {L : Addr} {v : Value} {kind : Str → Option NameKind} (F : Fr g L h (bindL kind [(Str.ofString "script", v)] fun _ => none)) (hk : kind (Str.ofString "script") = some .local := by rfl) : Fr g L h (fun z => if z = Str.ofString "script" then some v else none) := by
  refine fr_ext F fun z => ?_
  unfold bindL
  simp [hk]
  rfl
/-- a cut behind a statement: what was reached is told, and the way to it forgotten -/
theorem wpC_cut {M : Model} {A : Around} {E : Value → Shared → Prop} {s : Shared} {env : Env} {st : Stmt} {rest : List Stmt} {Q : Flow → Shared → Prop} (P : Shared → Prop) (h1 : wpC M A (exec st env) (fun f s' => match f with | .next => P s' | _ => False) E s)
    (h2 : ∀ s', P s' → wpC M A (execs rest env) Q E s') : wpC M A (execs (st :: rest) env) Q E s :=
  wpC_execs (wpC_mono h1 (fun f s' h => by cases f <;> first | exact h2 _ h | exact h.elim) fun _ _ e => e)
/-- what the walk does not open by itself -/
def Told (P : Prop) : Prop := P
theorem told_intro {P : Prop} (h : Told P) : P := h
theorem news_drop2 {g h : Heap} {L : Addr} {a b : Addr × Obj} {r : List (Addr × Obj)} (N : News g L h (a :: b :: r)) : News g L h (a :: r) := fun p hp => N p (by
  rcases List.mem_cons.mp hp with rfl | hp
  · exact List.mem_cons_self
  · exact List.mem_cons_of_mem _ (List.mem_cons_of_mem _ hp))
theorem abs_nonneg (l : List Int) : ∀ z ∈ List.map (fun k' : Int => if k' < 0 then -k' else k') l, 0 ≤ z := fun z hz => by
  obtain ⟨k, _, rfl⟩ := List.mem_map.mp hz
  split <;> omega
theorem getD_nonneg {l : List Int} (h : ∀ z ∈ l, 0 ≤ z) (i : Nat) : 0 ≤ l.getD i 0 := by
  rw [List.getD_eq_getElem?_getD]
  cases q : l[i]? with
  | none => exact Int.le_refl _
  | some x => exact h _ (List.mem_of_getElem? q)
theorem abs_len (l : List Int) : (List.map (fun k' : Int => if k' < 0 then -k' else k') (List.take 16 l)).length ≤ 16 := by
  rw [List.length_map, List.length_take]
  exact Nat.min_le_left _ _
theorem news_tail {g h : Heap} {L : Addr} {a : Addr × Obj} {r : List (Addr × Obj)} (N : News g L h (a :: r)) : News g L h r := fun p hp => N p (List.mem_cons_of_mem _ hp)
theorem oct_len (f : Int → Int) (zs : List Int) : (byteArr (List.map f (List.take (min 15 zs.length - 1) (List.drop 1 zs)))).size ≤ 14 := by
  rw [byteArr_size, List.length_map, List.length_take]
  omega
theorem key_len (f : Int → Int) : ((byteArr (List.map f (rangeKs 0 ((8 : Int) - 0).toNat))).size : Int) = 8 := by
  rw [byteArr_size, List.length_map]
  rfl
theorem fmod_in {n : Int} : 0 ≤ n.fmod 1000 ∧ n.fmod 1000 < 1000 := ⟨Int.fmod_nonneg_of_pos _ (by decide), Int.fmod_lt_of_pos _ (by decide)⟩
/-- the octet at a place -/
def octet (c : Array UInt8) (k : Int) : Int := (((c.toList.getD k.toNat 0).toNat : Nat) : Int)
theorem octet_in (c : Array UInt8) (k : Int) : 0 ≤ octet c k ∧ octet c k < 256 := by
  have := (c.toList.getD k.toNat 0).toNat_lt
  unfold octet
  omega
theorem item_at {prog : Program} {w : World} {A : Around} {E : Value → Shared → Prop} {s : Shared} {Q : Value → Shared → Prop} {value slice : PySem.Expr} {c : Array UInt8} {k : Int} {t u : Tok} (h0 : 0 ≤ k) (h1 : k < (c.size : Int)) (hz : (c.size : Int) ≤ 1000)
    (h : ∀ t', Q (.int (octet c k) t') { s with toks := s.toks + 1 })
    (hs : subscripted slice false (.bytes c t) (.int k u) = operate [.bytes c t, .int k u] (getItem (.bytes c t) (.int k u)) := by with_unfolding_all rfl)
    (ht : ∀ r, letTemporaryGo value (.bytes c t) r = pure () := by intro _; with_unfolding_all rfl) : wpAny (model prog w) A (subscriptTail value slice (.bytes c t) (.int k u)) Q E s := by
  have e : c = c.toList.toArray := by rw [Array.toArray_toList]
  have e2 : (((c.toList.getD k.toNat 0).toNat : Nat) : Int) = octet c k := rfl
  have z : c.toList.length = c.size := Array.length_toList
  revert hs ht e2
  rw [e]
  intro hs ht e2
  exact bytes_item_K (x := c.toList) (by omega) h0 (by omega) (by rw [← e2]) (h _) hs ht
theorem fmod8 {c : Array UInt8} {x : Int} (hc : (c.size : Int) = 8) : x.fmod 8 < (c.size : Int) := by
  have := Int.fmod_lt_of_pos x (by decide : (0 : Int) < 8)
  omega
end Mine

end
section
open PySem PySem.W PySem.Calls PyProof.Rows
namespace Mine
set_option maxRecDepth 100000
theorem xor_octet (a b : UInt8) : Builtin.bitXor ((a.toNat : Nat) : Int) ((b.toNat : Nat) : Int) = (((a ^^^ b).toNat : Nat) : Int) := by
  rw [bitXor_nat, UInt8.toNat_xor]
abbrev dueF (X K : Array UInt8) (p : Int) (k' : Int) : Int := Builtin.bitXor (octet X k') (octet K ((p + k').fmod 8))
theorem xor_in (X K : Array UInt8) (p : Int) (l : List Int) : ∀ z ∈ List.map (fun k' => Builtin.bitXor (octet X k') (octet K ((p + k').fmod 8))) l, 0 ≤ z ∧ z < 256 := fun z hz => by
  obtain ⟨k, _, rfl⟩ := List.mem_map.mp hz
  have e := xor_octet (X.toList.getD k.toNat 0) (K.toList.getD ((p + k).fmod 8).toNat 0)
  have := (X.toList.getD k.toNat 0 ^^^ K.toList.getD ((p + k).fmod 8).toNat 0).toNat_lt
  show 0 ≤ Builtin.bitXor (octet X k) (octet K ((p + k).fmod 8)) ∧ Builtin.bitXor (octet X k) (octet K ((p + k).fmod 8)) < 256
  unfold octet
  rw [e]
  omega
theorem due_eq {X K : Array UInt8} {p : Int} (hp : 0 ≤ p) : ((List.map (fun k' => Builtin.bitXor (octet X k') (octet K ((p + k').fmod 8))) (rangeKs 0 ((X.size : Int) - 0).toNat)).map fun n => n.toNat.toUInt8).toArray = maskB X K p.toNat := by
  refine arr_ext ?_
  unfold maskB xorL padL
  rw [show ((X.size : Int) - 0).toNat = X.size by omega]
  show List.map _ (List.map _ ((List.range X.size).map fun (i : Nat) => 0 + (i : Int))) = _
  refine List.ext_getElem? fun i => ?_
  rw [List.getElem?_map, List.getElem?_map, List.getElem?_map]
  by_cases hi : i < X.size
  · rw [List.getElem?_range hi]
    show some _ = _
    rw [show (List.zipWith (fun a b => a ^^^ b) X.toList _).toArray.toList = List.zipWith (fun a b => a ^^^ b) X.toList _ from rfl]
    rw [List.getElem?_zipWith, List.getElem?_map, List.getElem?_range hi, List.getElem?_eq_getElem (by rw [Array.length_toList]; exact hi)]
    show some _ = some _
    have e1 : (0 + (i : Int)).toNat = i := by omega
    have e2 : ((p + (0 + (i : Int))).fmod 8).toNat = (p.toNat + i) % 8 := by
      rw [Int.fmod_eq_emod_of_nonneg _ (by decide : (0 : Int) ≤ 8)]; omega
    have e3 := xor_octet (X.toList.getD i 0) (K.toList.getD ((p.toNat + i) % 8) 0)
    have e4 : X.toList.getD i 0 = X.toList[i]'(by rw [Array.length_toList]; exact hi) := by
      rw [List.getD_eq_getElem?_getD, List.getElem?_eq_getElem (by rw [Array.length_toList]; exact hi)]; rfl
    unfold octet
    dsimp only
    rw [e1, e2, e3, e4, Int.toNat_natCast]
    simp
  · rw [List.getElem?_eq_none (by rw [List.length_range]; omega)]
    show none = _
    rw [List.getElem?_eq_none]
    simp
    omega
theorem xor_twice (a b : UInt8) : a ^^^ b ^^^ b = a := by
  rw [UInt8.xor_assoc, UInt8.xor_self, UInt8.xor_zero]
theorem mask_twice (d k : Array UInt8) (o : Nat) : maskB (maskB d k o) k o = d := by
  refine arr_ext ?_
  have hs := maskB_size d k o
  unfold maskB at hs ⊢
  rw [hs]
  show List.zipWith _ (List.zipWith _ d.toList _) _ = _
  refine List.ext_getElem? fun i => ?_
  rw [List.getElem?_zipWith, List.getElem?_zipWith]
  by_cases hi : i < d.size
  · have h1 : i < (padL k.toList o d.size).length := by rw [padL_length]; exact hi
    rw [List.getElem?_eq_getElem (by rw [Array.length_toList]; exact hi : i < d.toList.length), List.getElem?_eq_getElem h1]
    show some _ = some _
    rw [xor_twice]
  · rw [List.getElem?_eq_none (by rw [Array.length_toList]; omega : d.toList.length ≤ i)]
theorem mask_eight (d k : Array UInt8) (p : Nat) : maskB d k (8 * p) = maskB d k 0 := by
  unfold maskB padL
  congr 2
  refine List.map_congr_left fun i _ => ?_
  rw [show (8 * p + i) % 8 = (0 + i) % 8 by omega]
theorem padL_add (ks : List UInt8) (o a b : Nat) : padL ks o (a + b) = padL ks o a ++ padL ks (o + a) b := by
  unfold padL
  rw [List.range_add, List.map_append, List.map_map]
  congr 1
  refine List.map_congr_left fun i _ => ?_
  show ks.getD ((o + (a + i)) % 8) 0 = _
  rw [show o + (a + i) = o + a + i by omega]
theorem mask_split {d a b k : Array UInt8} {o : Nat} (h : d.toList = a.toList ++ b.toList) : (maskB d k o).toList = (maskB a k o).toList ++ (maskB b k (o + a.size)).toList := by
  have hz : d.size = a.size + b.size := by
    rw [← Array.length_toList, h, List.length_append, Array.length_toList, Array.length_toList]
  show List.zipWith _ d.toList (padL k.toList o d.size) = List.zipWith _ a.toList _ ++ List.zipWith _ b.toList _
  rw [hz, padL_add, h, List.zipWith_append (by rw [padL_length, Array.length_toList])]
theorem clip_nat {n i : Nat} (h : i ≤ n) : clipAt n (i : Int) = i := by
  have := clipAt_cast n (i : Int)
  rw [if_neg (by omega)] at this
  omega
/-- part by part, with the place told, is the whole's -/
theorem split_add {prog : Program} {w : World} {A : Around} {E : Value → Shared → Prop} {s : Shared} {Q : Value → Shared → Prop} {X K c1 c2 : Array UInt8} {p : Int} {i : Nat} {t u : Tok} (hp : 0 ≤ p) (hi : i < X.size + 1) (hX : X.size ≤ 14)
    (h1 : c1.toList = List.take (clipAt X.size (i : Int)) X.toList) (h2 : c2.toList = List.take (X.size - clipAt X.size (i : Int)) (List.drop (clipAt X.size (i : Int)) X.toList))
    (h : ∀ t' k, Q (.bytes (maskB X K p.toNat) t') { s with toks := k }) : wpAny (model prog w) A (binaryOp .Add (.bytes (maskB c1 K p.toNat) t) (.bytes (maskB c2 K (p + (i : Int)).toNat) u)) Q E s := by
  rw [clip_nat (by omega)] at h1 h2
  have z1 : c1.size = i := by
    have := congrArg List.length h1
    rw [List.length_take, Array.length_toList, Array.length_toList] at this
    omega
  have z2 : c2.size = X.size - i := by
    have := congrArg List.length h2
    rw [List.length_take, List.length_drop, Array.length_toList, Array.length_toList] at this
    omega
  have hd : X.toList = c1.toList ++ c2.toList := by
    rw [h1, h2, List.take_of_length_le (i := X.size - i) (by rw [List.length_drop, Array.length_toList]; exact Nat.le_refl _), List.take_append_drop]
  refine add_B (by rw [maskB_size, maskB_size]; omega) fun t' k r hr _ => ?_
  have e : r = maskB X K p.toNat := arr_ext (by
    rw [hr, mask_split hd, z1, show (p + (i : Int)).toNat = p.toNat + i by omega])
  rw [e]
  exact h t' k
theorem near_in (n : Int) : 0 ≤ ([252, 253, 65535, 65536, 4294967295, 4294967296, 18446744073709551615, n.fmod 253, n.fmod (2 ^ Int.toNat 64)] : List Int).getD (n.fmod 9).toNat 0 ∧
    ([252, 253, 65535, 65536, 4294967295, 4294967296, 18446744073709551615, n.fmod 253, n.fmod (2 ^ Int.toNat 64)] : List Int).getD (n.fmod 9).toNat 0 < 18446744073709551616 := by
  have e : (2 : Int) ^ Int.toNat 64 = 18446744073709551616 := by decide
  rw [e]
  have a0 := Int.fmod_nonneg_of_pos n (by decide : (0 : Int) < 253)
  have a1 := Int.fmod_lt_of_pos n (by decide : (0 : Int) < 253)
  have b0 := Int.fmod_nonneg_of_pos n (by decide : (0 : Int) < 18446744073709551616)
  have b1 := Int.fmod_lt_of_pos n (by decide : (0 : Int) < 18446744073709551616)
  generalize (n.fmod 9).toNat = i
  match i with
  | 0 => exact ⟨by show (0 : Int) ≤ 252; decide, by show (252 : Int) < _; decide⟩
  | 1 => exact ⟨by show (0 : Int) ≤ 253; decide, by show (253 : Int) < _; decide⟩
  | 2 => exact ⟨by show (0 : Int) ≤ 65535; decide, by show (65535 : Int) < _; decide⟩
  | 3 => exact ⟨by show (0 : Int) ≤ 65536; decide, by show (65536 : Int) < _; decide⟩
  | 4 => exact ⟨by show (0 : Int) ≤ 4294967295; decide, by show (4294967295 : Int) < _; decide⟩
  | 5 => exact ⟨by show (0 : Int) ≤ 4294967296; decide, by show (4294967296 : Int) < _; decide⟩
  | 6 => exact ⟨by show (0 : Int) ≤ 18446744073709551615; decide, by show (18446744073709551615 : Int) < _; decide⟩
  | 7 => exact ⟨a0, Int.lt_trans a1 (by decide)⟩
  | 8 => exact ⟨b0, b1⟩
  | i + 9 => exact ⟨Int.le_refl 0, by show (0 : Int) < _; decide⟩
theorem key_short {k c : Array UInt8} {i : Nat} (hi : ¬ i = 0) (hz : (keyB k).size = 9) (hi9 : i < 9) (hc : c.toList = List.take (clipAt (keyB k).size (i : Int)) (keyB k).toList) : (((c.toList.getD 0 0).toNat : Nat) : Int) = 8 := by
  rw [hz, clip_nat (by omega)] at hc
  obtain ⟨j, rfl⟩ : ∃ j, i = j + 1 := ⟨i - 1, by omega⟩
  rw [hc]; rfl
end Mine

end
section
open PySem PySem.W PySem.Calls PyProof.Rows
namespace Mine
set_option maxRecDepth 100000
section
variable {prog : Program} {w : World} {A : Around} {E : Value → Shared → Prop} {s : Shared} {env : Env} {g : Heap} {L : Addr} {m : Str → Option Value} {news keep : List (Addr × Obj)}
theorem iterK {r : Addr} {lo hi : Int} {t u v : Tok} {k : Int} {Q : Value → Shared → Prop} (hr : IsRange s.heap r lo hi 1 t u v) (hsm : Builtin.Range.small lo hi 1 = true) (hk : Builtin.Range.rangeSize lo hi 1 = k)
    (F : Fr g L s.heap m) (N : News g L s.heap keep)
    (h : ∀ I h', Fr g L h' m → News g L h' ((I, itR lo k) :: keep) → (∀ p ∈ keep, p.1 < I) → Q (.ref I) { s with heap := h' }) : wpAny (model prog w) A (pyIter (.ref r)) Q E s := by
  refine wpAny_pyIter_range hr hsm ?_
  rw [hk]
  have hLI : L < s.heap.objs.size := F.ns.lt
  refine h _ _ (F.push _) (fun p hp => ?_) (fun p hp => Heap.lt_size (N p hp).1)
  rcases List.mem_cons.mp hp with rfl | hp
  · exact ⟨Heap.get?_push_size _ rfl, Ne.symm (Nat.ne_of_lt hLI), none_at F (Nat.le_of_lt hLI)⟩
  · exact ⟨Heap.get?_push_of_some _ (N p hp).1, (N p hp).2⟩
/-- a for over a range, turn by turn -/
theorem forC_loop {R : Result → Shared → Prop} {x : Str} {px : Pos} {body : List Stmt} {I : Addr} {n : Nat} (hh : A.handled = none) (hl : env.locals = L) (hx : env.kindOf x = some .local) (hp : (env.scope.kind == .class || (env.scope.kind == .module && env.locals != env.globals)) = false)
    (hI : ∀ p ∈ keep, p.1 < I)
    (turn : ∀ (i : Nat) (h : Heap) (t : Tok) (tk : Nat), i < n → Fr g L h (fun y => if y = x then some (.int (i : Int) t) else m y) → News g L h ((I, itR ((i : Int) + 1) ((n : Int) - (i + 1))) :: keep) →
      wpC (model prog w) A (execs body env) (fun f s₃ => Told (f = .next ∧ ∃ h' k', s₃ = ⟨h', s.gens, s.drawn, k', s.os⟩ ∧ Fr g L h' (fun y => if y = x then some (.int (i : Int) t) else m y) ∧ News g L h' ((I, itR ((i : Int) + 1) ((n : Int) - (i + 1))) :: keep)))
        (notedBy (model prog w) A env fun e s' => R (.error e) s') ⟨h, s.gens, s.drawn, tk, s.os⟩)
    (fin : ∀ h' v k', Fr g L h' (fun y => if y = x then v else m y) → News g L h' keep → R (.ok .next) ⟨h', s.gens, s.drawn, k', s.os⟩) :
    ∀ (j i : Nat) (h : Heap) (tk : Nat) (v : Option Value), i + j = n → Fr g L h (fun y => if y = x then v else m y) → News g L h ((I, itR (i : Int) (j : Int)) :: keep) →
      codeC (model prog w) A (.forLoop (.Name x px) (.ref I) body [] env) R ⟨h, s.gens, s.drawn, tk, s.os⟩ := by
  subst hl
  intro j
  induction j with
  | zero =>
    intro i h tk v hij F N
    have hI0 := N _ List.mem_cons_self
    refine codeC_forTurn (wpAny_pyNext_range_end (x := i) (left := (0 : Nat)) (step := 1) hh hI0.1 (by decide) fun h₁ hs => ?_)
    have F₁ : Fr g env.locals h₁ (fun y => if y = x then v else m y) := ⟨by
      obtain ⟨oL, a1, a2, hoL, a3⟩ := F.ns
      exact ⟨oL, a1, a2, hs _ _ (Ne.symm hI0.2.1) hoL, a3⟩, fun b o e => hs b o (fun q => by rw [q, hI0.2.2] at e; cases e) (F.keep b o e), F.above⟩
    refine wpAny_execs_nil (fin _ v _ F₁ fun p hp => ?_)
    have hp' := N p (List.mem_cons_of_mem _ hp)
    exact ⟨hs _ _ (Nat.ne_of_lt (hI p hp)) hp'.1, hp'.2⟩
  | succ j ih =>
    intro i h tk v hij F N
    have hI0 := N _ List.mem_cons_self
    refine codeC_forTurn (wpAny_pyNext_range_item (x := i) (left := ((j + 1 : Nat) : Int)) (step := 1) hI0.1 (by omega) fun h₁ hit hs => ?_)
    have F₁ := F.change hs hI0.2.1 hI0.2.2
    refine wpAny_pure (wpAny_assign_Name (wpAny_storeName_local hx F₁.ns (fun h₂ hn₂ hs₂ => ?_) hp))
    have hL₀ : g.get? env.locals = none := Heap.get?_none_of_le F₁.above
    have F₂ : Fr g env.locals h₂ (fun y => if y = x then some (.int (i : Int) tk) else m y) := fr_ext (m := fun y => if y = x then some (.int (i : Int) tk) else if y = x then v else m y)
      ⟨hn₂, fun b o e => hs₂.extBut b o (fun q => by rw [q, hL₀] at e; cases e) (F₁.keep b o e), F₁.above⟩ (fun z => by
        by_cases hz : z = x
        · rw [if_pos hz, if_pos hz]
        · rw [if_neg hz, if_neg hz, if_neg hz])
    have ej : ((j : Nat) : Int) = (n : Int) - (i + 1) := by omega
    have ej2 : (((j + 1 : Nat) : Int) - 1) = (n : Int) - (i + 1) := by omega
    have N₂ : News g env.locals h₂ ((I, itR ((i : Int) + 1) ((n : Int) - (i + 1))) :: keep) := fun p hp => by
      rcases List.mem_cons.mp hp with rfl | hp
      · rw [ej2] at hit
        exact ⟨hs₂.extBut _ _ hI0.2.1 hit, hI0.2⟩
      · have hp' := N p (List.mem_cons_of_mem _ hp)
        exact ⟨hs₂.extBut _ _ hp'.2.1 (hs.extBut _ _ (Nat.ne_of_lt (hI p hp)) hp'.1), hp'.2⟩
    refine wpC_mono (turn i h₂ _ _ (by omega) F₂ N₂) (fun f s₃ q => ?_) fun _ _ q => q
    obtain ⟨rfl, h', k', rfl, F₃, N₃⟩ := q
    rw [← ej] at N₃
    exact ih (i + 1) h' k' _ (by omega) F₃ N₃
/-- behind a call whose own frame's slots may have changed, with no frame beneath -/
theorem law_back {h h' : Heap} (F : Fr g L h m) (N : News g L h news) (k : Back (L :: fsOf []) h h') : Fr g L h' m ∧ News g L h' news := by
  have hLg : g.get? L = none := kts_self F
  have keepB : ∀ b o, h.get? b = some o → b ≠ L → h'.get? b = some o := fun b o e hb => k.other b o e (fun hm => by
    rcases List.mem_cons.mp hm with z | z
    · exact hb z
    · cases z)
  refine ⟨⟨?_, fun b o e => keepB b o (F.keep b o e) (fun q => by rw [q, hLg] at e; cases e), F.above⟩, fun p hp => ⟨keepB _ _ (N p hp).1 (N p hp).2.1, (N p hp).2⟩⟩
  obtain ⟨o, es, ep, ho, hd, r⟩ := F.ns
  obtain ⟨sl, q⟩ := k.frame _ _ ho List.mem_cons_self
  exact ⟨_, es, ep, q, hd, r⟩
theorem fr_same {h : Heap} {x : Str} {v : Option Value} (F : Fr g L h m) (hx : m x = v) : Fr g L h (fun y => if y = x then v else m y) := fr_ext F fun z => by
  by_cases hz : z = x
  · rw [if_pos hz, hz, hx]
  · rw [if_neg hz]
theorem fr_absent {h : Heap} {x : Str} (F : Fr g L h m) (hx : m x = none) : Fr g L h (fun y => if y = x then none else m y) := fr_ext F fun z => by
  by_cases hz : z = x
  · rw [if_pos hz, hz, hx]
  · rw [if_neg hz]
end
theorem small14 : ∀ n : Nat, n < 30 → Builtin.Range.small 0 ((n : Int) + 1) 1 = true := by decide
theorem size14 : ∀ n : Nat, n < 30 → Builtin.Range.rangeSize 0 ((n : Int) + 1) 1 = ((n + 1 : Nat) : Int) := by decide
end Mine

end
section

open PySem PySem.W PySem.Calls PyProof.Rows
namespace Mine
set_option maxRecDepth 100000
local macro_rules | `(tactic| cell_enter) => `(tactic| (refine' code_own ?k1 ?k2 ?k3 ?k5 ?kA ?kF ?kK ?k6 ?k7 ?k8 ?k9 ?kB ?_ ?c2 ?c3 ?c4 ?c5; (case kA => exact rfl); (case kF => exact rfl); (case kK => first | exact rfl | assumption); (case k1 => k_asm); (case k2 => k_asm); (case k3 => k_asm); (case k5 => k_asm); (case k6 => k_is); (case k7 => k_is); (case k8 => ktr_room); (case k9 => first | exact BindsTo.of_eq rfl | exact binds_K (by k_in) rfl (by k_is) rfl rfl rfl); (case c5 => decide); (case kB => exact locs rfl); (case c2 => exact rfl); (case c3 => exact rfl); (case c4 => exact rfl); k_whole; intro L' h' F' N' B' X' T'; (try dsimp only); (try k_lift B'); (try k_fold)))
local macro_rules | `(tactic| walk_at "call type:bytes") => `(tactic| ((with_reducible show wpAny _ _ (call (Value.type "bytes") [Value.bytes _ _]) _ _ _); (refine bytes_of_bytes ?_)))
local macro_rules | `(tactic| k_room) => `(tactic| ktr_room)
local macro_rules | `(tactic| walk_at "call builtin:len") => `(tactic| ((with_reducible show wpAny _ _ (call (Value.builtin "len") [Value.bytes _ _]) _ _ _); (refine len_bytes_at (by assumption) (by omega) ?_); intro _ _))
local macro_rules | `(tactic| walk_at "truthy bytes") => `(tactic| ((with_reducible show wpAny _ _ (truthy (Value.bytes _ _)) _ _ _); (refine truthy_bytes_at (by assumption) (by omega) ?_); intro _))
local macro_rules | `(tactic| walk_at "subscriptTail") => `(tactic| ((with_reducible show wpAny _ _ (subscriptTail _ (Expr.Slice _ _ none _) (Value.bytes _ _) (Value.ref _)) _ _ _); (with_reducible rename Fr _ _ _ _ => F'); (with_reducible rename News _ _ _ _ => N'); (refine slice_B (s := ⟨_, _, _, _, _⟩) F' N' (by constructor) (by constructor) (by omega) ?_); intro h' t' k' c' F' N' hS' hZ'; (dsimp only [Option.elim] at hS'); (dsimp only [Option.elim] at hZ'); (try simp only [List.drop_zero, Nat.sub_zero] at hS'); (try simp only [Nat.sub_zero, clipAt_nat] at hZ'); (try k_sweep)))
local macro_rules | `(tactic| walk_at "binaryOp Mult bytes int") => `(tactic| ((with_reducible show wpAny _ _ (binaryOp Operator.Mult (Value.bytes _ _) (Value.int _ _)) _ _ _); (refine mul_B (by omega) ?n0 ?n1 ?_; (case n0 => first | omega | (simp only [Int.fdiv_eq_ediv_of_nonneg _ (by decide : (0 : Int) ≤ 8)]; omega)); (case n1 => first | omega | (simp only [Int.fdiv_eq_ediv_of_nonneg _ (by decide : (0 : Int) ≤ 8)]; omega))); intro t' k' c' hS' hZ'; (try simp only [Int.fdiv_eq_ediv_of_nonneg _ (by decide : (0 : Int) ≤ 8)] at hZ')))
local macro_rules | `(tactic| walk_at "binaryOp Add bytes bytes") => `(tactic| ((with_reducible show wpAny _ _ (binaryOp Operator.Add (Value.bytes _ _) (Value.bytes _ _)) _ _ _); (refine add_B (by omega) ?_); intro t' k' c' hS' hZ'))
local macro_rules | `(tactic| walk_at "call builtin:len") => `(tactic| ((with_reducible show wpAny _ _ (call (Value.builtin "len") [Value.bytes _ _]) _ _ _); first | ((refine len_bytes_at (by assumption) (by omega) ?_); intro _ _) | ((refine len_B (by omega) ?_); intro _ _)))
local macro_rules | `(tactic| walk_at "call ref") => `(tactic| ((with_reducible show wpAny _ _ (call (Value.ref _) [Value.bytes _ _, Value.str _ _]) _ _ _); k_dflt (refine call_fb_big (by k_asm) (by k_mem) (by omega) ?_); intro _ _))
local macro_rules | `(tactic| walk_at "call type:type") => `(tactic| ((with_reducible show wpAny _ _ (call (Value.type "type") [Value.bytes _ _]) _ _ _); refine call_type_of (Tx := "bytes") (PySem.W.typeIs_bytes _ _ _) (by decide +kernel) ?_))
local macro_rules | `(tactic| walk_at "exec Raise some none") => `(tactic| ((with_reducible show wpAny _ _ (exec (Stmt.Raise (some (Expr.Call (Expr.Name _ _) (_ :: _) [] _)) none _) _) _ _ _); k_dflt (first
  | (refine' Raise_own2 ?F ?g ?O PySem.F.excBase_Exception ?n PySem.F.excBase_ValueError ?h ?_ ?a ?b ?c ?d ?e; (case F => k_asm); (case g => exact TopRead.g (by k_asm)); (case O => exact own_of_in (by k_asm) (by k_asm) (by k_is) (by k_exc)); (case n => rfl); (case h => first | rfl | assumption); (case a => rfl); (case b => rfl); (case c => rfl); (case d => rfl); (case e => decide); k_whole)
  | (refine' Raise_own2 ?F ?g ?O PySem.F.excBase_Exception ?n PySem.F.excBase_TypeError ?h ?_ ?a ?b ?c ?d ?e; (case F => k_asm); (case g => exact TopRead.g (by k_asm)); (case O => exact own_of_in (by k_asm) (by k_asm) (by k_is) (by k_exc)); (case n => rfl); (case h => first | rfl | assumption); (case a => rfl); (case b => rfl); (case c => rfl); (case d => rfl); (case e => decide); k_whole))))
local macro_rules | `(tactic| walk_at "getMethod type:int") => `(tactic| (with_reducible (refine' fast_fb ?kfbF ?kfbN ?kfbX ?_; (case kfbF => k_asm); (case kfbN => k_asm); (case kfbX => k_asm); k_whole); intro x' h' F' N' l1; (try k_lt l1); (try k_sweep)))
local macro_rules | `(tactic| walk_at "eval Name") => `(tactic| (first
  | ((name_kind "local"); (with_reducible refine' fastL ?xF ?xl ?xv ?xk ?xd ?_); (case xl => decide +kernel); (case xF => k_asm); (case xk => first | exact rfl | assumption); (case xd => kernel_rfl); (case xv => k_dflt (exact rfl)); k_whole)
  | ((name_kind "globalImplicit"); (with_reducible refine' fastG ?xF ?xl ?xX ?xT ?xe ?xk ?xd ?_); (case xl => decide +kernel); (case xF => k_asm); (case xX => k_asm); (case xT => k_asm); (case xe => k_dflt k_is); (case xk => first | exact rfl | assumption); (case xd => kernel_rfl); k_whole)
  | ((name_kind "globalImplicit"); name_is_builtin; (with_reducible refine' fastB ?xF ?xl ?xX ?xT ?xe ?xv ?xn ?xk ?xd ?_); (case xl => kernel_rfl); (case xF => k_asm); (case xX => k_asm); (case xT => k_asm); (case xe => k_dflt k_is); (case xv => k_dflt (first | boot_fast | boot_by_name)); (case xn => decide); (case xk => first | exact rfl | assumption); (case xd => kernel_rfl); k_whole)
  | ((name_kind "local"); (with_reducible refine' fastXL ?xF ?xl ?xv ?xk ?xd ?_); (case xl => decide +kernel); (case xF => k_asm); (case xk => first | exact rfl | assumption); (case xd => kernel_rfl); (case xv => k_dflt (exact rfl)); k_whole)
  | ((name_kind "cell"); (with_reducible refine' fastXC ?xN ?xl ?xc ?xm ?xo ?xk ?xd ?_); (case xl => decide +kernel); (case xN => k_asm); (case xc => k_dflt (exact rfl)); (case xm => k_dflt k_mem); (case xo => k_dflt k_asm); (case xk => first | exact rfl | assumption); (case xd => kernel_rfl); k_whole)
  | ((name_kind "globalImplicit"); (with_reducible refine' fastXG ?xF ?xl ?xX ?xT ?xe ?xk ?xd ?_); (case xl => decide +kernel); (case xF => k_asm); (case xX => k_asm); (case xT => k_asm); (case xe => k_dflt k_is); (case xk => first | exact rfl | assumption); (case xd => kernel_rfl); k_whole)
  | ((name_kind "globalImplicit"); name_is_builtin; (with_reducible refine' fastXB ?xF ?xl ?xX ?xT ?xe ?xv ?xn ?xk ?xd ?_); (case xl => kernel_rfl); (case xF => k_asm); (case xX => k_asm); (case xT => k_asm); (case xe => k_dflt k_is); (case xv => k_dflt (first | boot_fast | boot_by_name)); (case xn => decide); (case xk => first | exact rfl | assumption); (case xd => kernel_rfl); k_whole)
  | ((name_kind "local"); (with_reducible refine' fastYL ?xF ?xl ?xv ?xk ?xd ?_); (case xl => decide +kernel); (case xF => k_asm); (case xk => first | exact rfl | assumption); (case xd => kernel_rfl); (case xv => k_dflt (exact rfl)); k_whole)
  | ((name_kind "cell"); (with_reducible refine' fastYC ?xN ?xl ?xc ?xm ?xo ?xk ?xd ?_); (case xl => decide +kernel); (case xN => k_asm); (case xc => k_dflt (exact rfl)); (case xm => k_dflt k_mem); (case xo => k_dflt k_asm); (case xk => first | exact rfl | assumption); (case xd => kernel_rfl); k_whole)
  | ((name_kind "globalImplicit"); (with_reducible refine' fastYG ?xF ?xl ?xX ?xT ?xe ?xk ?xd ?_); (case xl => decide +kernel); (case xF => k_asm); (case xX => k_asm); (case xT => k_asm); (case xe => k_dflt k_is); (case xk => first | exact rfl | assumption); (case xd => kernel_rfl); k_whole)
  | ((name_kind "globalImplicit"); name_is_builtin; (with_reducible refine' fastYB ?xF ?xl ?xX ?xT ?xe ?xv ?xn ?xk ?xd ?_); (case xl => kernel_rfl); (case xF => k_asm); (case xX => k_asm); (case xT => k_asm); (case xe => k_dflt k_is); (case xv => k_dflt (first | boot_fast | boot_by_name)); (case xn => decide); (case xk => first | exact rfl | assumption); (case xd => kernel_rfl); k_whole)
  | ((name_kind "local"); (with_reducible refine' fastCL ?xN ?xl ?xm ?xo ?xv ?xk ?xd ?_); (case xl => decide +kernel); (case xN => k_asm); (case xm => k_dflt k_mem); (case xo => assumption); (case xv => assumption); (case xk => exact rfl); (case xd => kernel_rfl); k_whole)
  | ((name_kind "free"); (with_reducible refine' fastCF ?xN ?xl ?xe ?xs ?xc ?xm ?xo ?xk ?xd ?_); (case xl => decide +kernel); (case xe => kernel_rfl); (case xs => kernel_rfl); (case xN => k_asm); (case xc => k_dflt (exact rfl)); (case xm => k_dflt k_mem); (case xo => k_dflt k_asm); (case xk => exact rfl); (case xd => kernel_rfl); k_whole)
  | ((name_kind "free"); (with_reducible refine' fastCY ?xN ?xl ?xe ?xs ?xc ?xm ?xo ?xk ?xd ?_); (case xl => decide +kernel); (case xe => kernel_rfl); (case xs => kernel_rfl); (case xN => k_asm); (case xc => k_dflt (exact rfl)); (case xm => k_dflt k_mem); (case xo => k_dflt k_asm); (case xk => exact rfl); (case xd => kernel_rfl); k_whole)
  | ((name_kind "globalImplicit"); (with_reducible refine' fastCG ?xF ?xl ?xX ?xT ?xe ?xg ?xk ?xd ?_); (case xl => decide +kernel); (case xF => k_asm); (case xX => k_asm); (case xT => k_asm); (case xe => k_dflt k_is); (case xg => k_dflt (exact rfl)); (case xk => exact rfl); (case xd => kernel_rfl); k_whole)
  | ((name_kind "globalImplicit"); name_is_builtin; (with_reducible refine' fastCB ?xF ?xl ?xX ?xT ?xe ?xv ?xn ?xg ?xb ?xk ?xd ?_); (case xl => kernel_rfl); (case xF => k_asm); (case xX => k_asm); (case xT => k_asm); (case xe => k_dflt k_is); (case xv => k_dflt (first | boot_fast | boot_by_name)); (case xn => decide); (case xg => k_dflt (exact rfl)); (case xb => k_dflt (exact rfl)); (case xk => exact rfl); (case xd => kernel_rfl); k_whole)))
local macro_rules | `(tactic| walk_at "call ref") => `(tactic| ((with_reducible show wpAny _ _ (call (Value.ref 66) _) _ _ _); k_dflt (first
  | (refine' bfo1 ?B ?F ?X ?T ?hk ?hd ?hu ?_)
  | (refine' bfo2 ?B ?F ?X ?T ?hk ?hd ?hu ?hz ?_; (case hz => assumption))); (case B => k_asm); (case F => k_asm); (case X => k_asm); (case T => k_asm); (case hk => first | exact rfl | assumption); (case hd => ktr_room); (case hu => ktr_units); (intro h9 t9 k9 hk9); (have F9 := Fr.keeps (by k_asm) hk9); (have N9 := News.grown (by k_asm) hk9); clear hk9; (try k_sweep)))
local macro_rules | `(tactic| walk_at "binaryOp FloorDiv int int") => `(tactic| ((with_reducible show wpAny _ _ (binaryOp Operator.FloorDiv (Value.int _ _) (Value.int (256 ^ _) _)) _ _ _); (refine floordiv_int (p256_ne _) ?_ (Or.inl (np256 (by omega))))))
local macro_rules | `(tactic| walk_at "callWith builtin:int.to_bytes") => `(tactic| ((with_reducible show wpAny _ _ (callWith _ (Value.builtin _) _ _ (backToKw _ _)) _ _ _); k_dflt (refine callWith_little (P := fun _ => True) keeper_builtin ?_)))
local macro_rules | `(tactic| walk_at "callWith ref") => `(tactic| ((with_reducible show wpAny _ _ (callWith _ (Value.ref _) _ _ (backToKw _ _)) _ _ _); k_dflt (refine callWith_little (P := KFB.StandsAt _) keeper_bound ?_)))
local macro_rules | `(tactic| walk_at "call builtin:int.to_bytes") => `(tactic| ((with_reducible show wpAny _ _ (call (Value.builtin _) _ (kwLittle _)) _ _ _); k_dflt (first | (refine tb_low (k := 2) ?h0 ?h1 (by decide) ?_; (case h0 => omega); (case h1 => omega)) | (refine tb_low (k := 4) ?h0 ?h1 (by decide) ?_; (case h0 => omega); (case h1 => omega)) | (refine tb_low (k := 8) ?h0 ?h1 (by decide) ?_; (case h0 => omega); (case h1 => omega))); intro t8 k8))
local macro_rules | `(tactic| walk_at "call ref") => `(tactic| ((with_reducible show wpAny _ _ (call (Value.ref _) _ (kwLittle _)) _ _ _); k_dflt (refine call_fb_little (by k_asm) (by k_mem) (by omega) ?_); intro _ _))
local macro_rules | `(tactic| walk_at "call builtin:len") => `(tactic| ((with_reducible show wpAny _ _ (call (Value.builtin "len") [Value.ref _]) _ _ _); k_dflt (refine len_baK (by k_asm) (by k_mem) (by omega) ?_); intro _ _))
local macro_rules | `(tactic| walk_at "call type:bytes") => `(tactic| ((with_reducible show wpAny _ _ (call (Value.type "bytes") [Value.ref _]) _ _ _); k_dflt (refine bytes_baK (by k_asm) (by k_mem) (by omega) ?_); intro _ _))
local macro_rules | `(tactic| walk_at "subscriptTail") => `(tactic| ((with_reducible show wpAny _ _ (subscriptTail _ (Expr.Slice _ _ none _) (Value.ref _) (Value.ref _)) _ _ _); (with_reducible rename Fr _ _ _ _ => F'); (with_reducible rename News _ _ _ _ => N'); k_dflt (refine cut_K (s := ⟨_, _, _, _, _⟩) F' N' (by k_mem) (by omega) (by omega) (by omega) (by omega) ?_); intro r' h' c' F' N' l1 hS' hZ'; (try k_lt l1); (try k_sweep)))
local macro_rules | `(tactic| walk_at "subscriptTail") => `(tactic| ((with_reducible show wpAny _ _ (subscriptTail _ (Expr.Constant (Const.int 0) _ _) (Value.bytes _ _) (Value.int _ _)) _ _ _); k_dflt (refine item0_at (by assumption) (by omega) (by omega) (by omega) (by omega) (by assumption) ?_); intro _))
local macro_rules | `(tactic| walk_at "call ref") => `(tactic| ((with_reducible show wpAny _ _ (call (Value.ref _) _ (kwLittle _)) _ _ _); k_dflt (first | refine fbl_at (kk := 2) (by k_asm) (by k_mem) (by assumption) (by omega) (by omega) (by assumption) (by omega) (by omega) (by omega) ?_ | refine fbl_at (kk := 4) (by k_asm) (by k_mem) (by assumption) (by omega) (by omega) (by assumption) (by omega) (by omega) (by omega) ?_ | refine fbl_at (kk := 8) (by k_asm) (by k_mem) (by assumption) (by omega) (by omega) (by assumption) (by omega) (by omega) (by omega) ?_); intro _ _))
local macro_rules | `(tactic| walk_at "truthy bytes") => `(tactic| ((with_reducible show wpAny _ _ (truthy (Value.bytes #[] _)) _ _ _); (refine empty_truthy ?_); intro _))
local macro_rules | `(tactic| k_enter) => `(tactic| ((fail_if_success k_inElt); (refine' code_def ?k1 ?k2 ?k3 ?k4 ?k5 ?kA ?kF ?kK ?k6 ?k7 ?k8 ?k9 ?kB ?_ ?c2 ?c3 ?c4 ?c5; (case kA => exact rfl); (case kF => exact rfl); (case kK => first | exact rfl | assumption); (case k1 => k_asm); (case k2 => k_asm); (case k3 => k_asm); (case k4 => k_asm); (case k5 => k_asm); (case k6 => k_is); (case k7 => k_is); (case k8 => k_room); (case k9 => refine' binds_as ?kb1 ?kb2; (case kb1 => first | exact BindsTo.of_eq rfl | exact binds_K (by k_in) rfl (by k_is) rfl rfl rfl); (case kb2 => (conv => arg 1; whnf); (repeat (apply same_cons; (focus ((conv => arg 1; arg 1; whnf); (try dsimp only); exact same_rfl)); (focus ((conv => arg 1; arg 1; whnf); (try dsimp only); exact same_rfl)); (conv => arg 1; whnf))); exact same_nil)); (case c5 => decide); (case kB => exact locs rfl); (case c2 => exact rfl); (case c3 => exact rfl); (case c4 => exact rfl); k_whole; intro g' L' h' FG' F' N' B' X' T'; (try dsimp only); (try k_lift B'); (try k_fold))))
local macro_rules | `(tactic| walk_at "formatField int") => `(tactic| (k_dflt (refine formatField_hex (by omega) (by omega) ?_); intro t8 k8; (have hX8 := hexT_length _ (by assumption) (by assumption)); revert hX8; (generalize hexT _ = X8); intro hX8; obtain ⟨hX8, hY8⟩ := hX8))
local macro_rules | `(tactic| walk_at "call type:reversed") => `(tactic| ((have z8 : (Str.ofString "0").length = 1 := rfl); (try simp only [Int.fmod_eq_emod_of_nonneg _ (by decide : (0 : Int) ≤ 2)] at *); (try (have hY9 := app16 (by assumption) (by omega))); k_dflt (refine' revr_K ?rvF ?rvN ?rvr ?rv1 ?rv2 ?_ ?_; (case rvF => k_asm); (case rvN => k_asm); (case rvr => assumption); (case rv1 => omega); (case rv2 => omega)) <;> (intro h7 D' h' F' N' l1; (try k_lt l1); (try k_sweep))))
local macro_rules | `(tactic| walk_at "call type:list") => `(tactic| ((with_reducible show wpAny _ _ (call (Value.type "list") [Value.ref _]) _ _ _); k_dflt (first
  | (refine' list_ri1 ?lrA ?lrF ?lrN ?lrn ?_; (case lrA => rfl); (case lrF => k_asm); (case lrN => k_asm); (case lrn => k_all)); intro D' c' h' tk' t0 F' N' l1; (try k_lt l1); (try k_sweep)
  | (refine' list_ri2 ?lrA ?lrF ?lrN ?lrn ?_; (case lrA => rfl); (case lrF => k_asm); (case lrN => k_asm); (case lrn => k_all)); intro D' c' h' tk' t0 t1 F' N' l1; (try k_lt l1); (try k_sweep))))
local macro_rules | `(tactic| walk_at "call builtin:str.upper") => `(tactic| (k_dflt (refine upper_any (by omega) ?_); intro z9 t9 k9 hz9))
local macro_rules | `(tactic| walk_at "exec Assign cons ListComp") => `(tactic| (k_dflt (refine LCg.Assign_ListComp_U (F₀ := by k_asm) (by rfl) (by with_unfolding_all rfl) (by with_unfolding_all rfl) (by decide) (by rfl) (by decide) (by rfl) (by rfl) (by rfl) ?_); k_dflt lcg_toSrc))
local macro_rules | `(tactic| walk_at "CompSrc") => `(tactic| (k_dflt (refine LCg.CompSrc.ledger (by rfl) (by k_asm) (by k_asm) (by k_mem) (by first | size_fits | exact Nat.le_of_ble_eq_true rfl) ?_; intro g'; lcg_lit)))
local macro_rules | `(tactic| walk_at "ite") => `(tactic| (k_closed; with_reducible (first | (refine' iteBT ?hIte ?_; (case hIte => decide +kernel)) | (refine' iteBF ?hIte ?_; (case hIte => decide +kernel)))))
local macro_rules | `(tactic| walk_at "ite") => `(tactic| with_reducible (first | refine iteTT ?_ | refine iteFT ?_ | refine iteNeS ?_ | refine iteEqS ?_))
section
variable {w : World} {mean : ExcName → Option Value} {mg mb : Str → Option Value} {dp un : Nat} {gd : Option (List Code)} {cn : Str} {cs : Scope} {a : Addr} {ccd : Value} {cl : List (Str × Addr)} {outer : List Env} {A₀ : Around} {base h₀ : Heap} {L : Addr} {m : Str → Option Value} {s : Shared} {Q E : Value → Shared → Prop}
set_option maxHeartbeats 4000000 in
theorem hx (B : Below A₀ base outer h₀) (F : Fr h₀ L s.heap m) (X : (hd.heap_39 w.params).In h₀) (T : Top hd.view_39 Lz mean mg mb h₀) (hk : cs.kind = .function) (hdp : dp + 12 < recursionLimit) (hun : un + 90 < cLine)
    {n : Int} {tn : Tok} (hn : 0 ≤ n) (hn' : n < 18446744073709551616) (hret : ∀ z, z.length ≤ 300 → RetK s Q fun t => .str z t) :
    wpAny (model Challenge.pw_ez0013_01 w) (ktrTop dp un gd cn cs L a ccd cl outer) (call (.ref 649) [.int n tn]) Q E s := by
  refine fill (Q := PySem.Challenge.rw_ez0013_01 = PySem.Challenge.rw_ez0013_01 ∧ hd.heap_39 = hd.heap_39) ?_
  k_fill
  refine ⟨⟨rfl, rfl⟩, ?_⟩
  refine wpAny_call ?_
  k_dflt (((refine' code_ownX (binds := [(Str.ofString "i", Value.int n tn)]) ?k1 ?k2 ?k3 ?k5 ?kA ?kF ?kK ?k6 ?k7 ?k8 ?k9 ?kB ?kD ?_ ?c2 ?c3 ?c4; (case kA => exact rfl); (case kF => exact rfl); (case kK => first | exact rfl | assumption); (case k1 => k_asm); (case k2 => k_asm); (case k3 => k_asm); (case k5 => k_asm); (case k6 => k_is); (case k7 => k_is); (case k8 => ktr_room); (case k9 => first | exact BindsTo.of_eq rfl | exact binds_K (by k_in) rfl (by k_is) rfl rfl rfl); (case kB => exact rfl); (case kD => decide +kernel); (case c2 => exact rfl); (case c3 => exact rfl); (case c4 => exact rfl); k_whole; intro L' h' tk' cells' F' N' Y' B' X' T'; k_cells Y'; (try simp only [List.cons_append, List.nil_append] at N'); (try dsimp only); (try k_lift B'); (try k_fold))))
  k_steps
  · with_reducible refine up_j1 ?_ ?_
    · ((refine Nat.le_trans (Txt.slice_le _ _ _) ?_; assumption))
    intro z9 t9 k9 hz9
    k_steps
    exact hret _ (by assumption) _ _ _ (Fr.keep (by assumption))
  · with_reducible refine up_j2 ?_ ?_ ?_
    · ((refine Nat.le_trans (Txt.slice_le _ _ _) ?_; assumption))
    · ((refine Nat.le_trans (Txt.slice_le _ _ _) ?_; assumption))
    intro z9 t9 k9 hz9
    k_steps
    exact hret _ (by assumption) _ _ _ (Fr.keep (by assumption))
  · with_reducible refine up_j1 ?_ ?_
    · ((refine Nat.le_trans (Txt.slice_le _ _ _) ?_; assumption))
    intro z9 t9 k9 hz9
    k_steps
    exact hret _ (by assumption) _ _ _ (Fr.keep (by assumption))
  · with_reducible refine up_j2 ?_ ?_ ?_
    · ((refine Nat.le_trans (Txt.slice_le _ _ _) ?_; assumption))
    · ((refine Nat.le_trans (Txt.slice_le _ _ _) ?_; assumption))
    intro z9 t9 k9 hz9
    k_steps
    exact hret _ (by assumption) _ _ _ (Fr.keep (by assumption))
end
end Mine

end
section

open PySem PySem.W PySem.Calls PyProof.Rows
namespace Mine
set_option maxRecDepth 100000
local macro_rules | `(tactic| cell_enter) => `(tactic| (refine' code_own ?k1 ?k2 ?k3 ?k5 ?kA ?kF ?kK ?k6 ?k7 ?k8 ?k9 ?kB ?_ ?c2 ?c3 ?c4 ?c5; (case kA => exact rfl); (case kF => exact rfl); (case kK => first | exact rfl | assumption); (case k1 => k_asm); (case k2 => k_asm); (case k3 => k_asm); (case k5 => k_asm); (case k6 => k_is); (case k7 => k_is); (case k8 => ktr_room); (case k9 => first | exact BindsTo.of_eq rfl | exact binds_K (by k_in) rfl (by k_is) rfl rfl rfl); (case c5 => decide); (case kB => exact locs rfl); (case c2 => exact rfl); (case c3 => exact rfl); (case c4 => exact rfl); k_whole; intro L' h' F' N' B' X' T'; (try dsimp only); (try k_lift B'); (try k_fold)))
local macro_rules | `(tactic| walk_at "call type:bytes") => `(tactic| ((with_reducible show wpAny _ _ (call (Value.type "bytes") [Value.bytes _ _]) _ _ _); (refine bytes_of_bytes ?_)))
local macro_rules | `(tactic| k_room) => `(tactic| ktr_room)
local macro_rules | `(tactic| walk_at "call builtin:len") => `(tactic| ((with_reducible show wpAny _ _ (call (Value.builtin "len") [Value.bytes _ _]) _ _ _); (refine len_bytes_at (by assumption) (by omega) ?_); intro _ _))
local macro_rules | `(tactic| walk_at "truthy bytes") => `(tactic| ((with_reducible show wpAny _ _ (truthy (Value.bytes _ _)) _ _ _); (refine truthy_bytes_at (by assumption) (by omega) ?_); intro _))
local macro_rules | `(tactic| walk_at "subscriptTail") => `(tactic| ((with_reducible show wpAny _ _ (subscriptTail _ (Expr.Slice _ _ none _) (Value.bytes _ _) (Value.ref _)) _ _ _); (with_reducible rename Fr _ _ _ _ => F'); (with_reducible rename News _ _ _ _ => N'); (refine slice_B (s := ⟨_, _, _, _, _⟩) F' N' (by constructor) (by constructor) (by omega) ?_); intro h' t' k' c' F' N' hS' hZ'; (dsimp only [Option.elim] at hS'); (dsimp only [Option.elim] at hZ'); (try simp only [List.drop_zero, Nat.sub_zero] at hS'); (try simp only [Nat.sub_zero, clipAt_nat] at hZ'); (try k_sweep)))
local macro_rules | `(tactic| walk_at "binaryOp Mult bytes int") => `(tactic| ((with_reducible show wpAny _ _ (binaryOp Operator.Mult (Value.bytes _ _) (Value.int _ _)) _ _ _); (refine mul_B (by omega) ?n0 ?n1 ?_; (case n0 => first | omega | (simp only [Int.fdiv_eq_ediv_of_nonneg _ (by decide : (0 : Int) ≤ 8)]; omega)); (case n1 => first | omega | (simp only [Int.fdiv_eq_ediv_of_nonneg _ (by decide : (0 : Int) ≤ 8)]; omega))); intro t' k' c' hS' hZ'; (try simp only [Int.fdiv_eq_ediv_of_nonneg _ (by decide : (0 : Int) ≤ 8)] at hZ')))
local macro_rules | `(tactic| walk_at "binaryOp Add bytes bytes") => `(tactic| ((with_reducible show wpAny _ _ (binaryOp Operator.Add (Value.bytes _ _) (Value.bytes _ _)) _ _ _); (refine add_B (by omega) ?_); intro t' k' c' hS' hZ'))
local macro_rules | `(tactic| walk_at "call builtin:len") => `(tactic| ((with_reducible show wpAny _ _ (call (Value.builtin "len") [Value.bytes _ _]) _ _ _); first | ((refine len_bytes_at (by assumption) (by omega) ?_); intro _ _) | ((refine len_B (by omega) ?_); intro _ _)))
local macro_rules | `(tactic| walk_at "call ref") => `(tactic| ((with_reducible show wpAny _ _ (call (Value.ref _) [Value.bytes _ _, Value.str _ _]) _ _ _); k_dflt (refine call_fb_big (by k_asm) (by k_mem) (by omega) ?_); intro _ _))
local macro_rules | `(tactic| walk_at "call type:type") => `(tactic| ((with_reducible show wpAny _ _ (call (Value.type "type") [Value.bytes _ _]) _ _ _); refine call_type_of (Tx := "bytes") (PySem.W.typeIs_bytes _ _ _) (by decide +kernel) ?_))
local macro_rules | `(tactic| walk_at "exec Raise some none") => `(tactic| ((with_reducible show wpAny _ _ (exec (Stmt.Raise (some (Expr.Call (Expr.Name _ _) (_ :: _) [] _)) none _) _) _ _ _); k_dflt (first
  | (refine' Raise_own2 ?F ?g ?O PySem.F.excBase_Exception ?n PySem.F.excBase_ValueError ?h ?_ ?a ?b ?c ?d ?e; (case F => k_asm); (case g => exact TopRead.g (by k_asm)); (case O => exact own_of_in (by k_asm) (by k_asm) (by k_is) (by k_exc)); (case n => rfl); (case h => first | rfl | assumption); (case a => rfl); (case b => rfl); (case c => rfl); (case d => rfl); (case e => decide); k_whole)
  | (refine' Raise_own2 ?F ?g ?O PySem.F.excBase_Exception ?n PySem.F.excBase_TypeError ?h ?_ ?a ?b ?c ?d ?e; (case F => k_asm); (case g => exact TopRead.g (by k_asm)); (case O => exact own_of_in (by k_asm) (by k_asm) (by k_is) (by k_exc)); (case n => rfl); (case h => first | rfl | assumption); (case a => rfl); (case b => rfl); (case c => rfl); (case d => rfl); (case e => decide); k_whole))))
local macro_rules | `(tactic| walk_at "getMethod type:int") => `(tactic| (with_reducible (refine' fast_fb ?kfbF ?kfbN ?kfbX ?_; (case kfbF => k_asm); (case kfbN => k_asm); (case kfbX => k_asm); k_whole); intro x' h' F' N' l1; (try k_lt l1); (try k_sweep)))
local macro_rules | `(tactic| walk_at "eval Name") => `(tactic| (first
  | ((name_kind "local"); (with_reducible refine' fastL ?xF ?xl ?xv ?xk ?xd ?_); (case xl => decide +kernel); (case xF => k_asm); (case xk => first | exact rfl | assumption); (case xd => kernel_rfl); (case xv => k_dflt (exact rfl)); k_whole)
  | ((name_kind "globalImplicit"); (with_reducible refine' fastG ?xF ?xl ?xX ?xT ?xe ?xk ?xd ?_); (case xl => decide +kernel); (case xF => k_asm); (case xX => k_asm); (case xT => k_asm); (case xe => k_dflt k_is); (case xk => first | exact rfl | assumption); (case xd => kernel_rfl); k_whole)
  | ((name_kind "globalImplicit"); name_is_builtin; (with_reducible refine' fastB ?xF ?xl ?xX ?xT ?xe ?xv ?xn ?xk ?xd ?_); (case xl => kernel_rfl); (case xF => k_asm); (case xX => k_asm); (case xT => k_asm); (case xe => k_dflt k_is); (case xv => k_dflt (first | boot_fast | boot_by_name)); (case xn => decide); (case xk => first | exact rfl | assumption); (case xd => kernel_rfl); k_whole)
  | ((name_kind "local"); (with_reducible refine' fastXL ?xF ?xl ?xv ?xk ?xd ?_); (case xl => decide +kernel); (case xF => k_asm); (case xk => first | exact rfl | assumption); (case xd => kernel_rfl); (case xv => k_dflt (exact rfl)); k_whole)
  | ((name_kind "cell"); (with_reducible refine' fastXC ?xN ?xl ?xc ?xm ?xo ?xk ?xd ?_); (case xl => decide +kernel); (case xN => k_asm); (case xc => k_dflt (exact rfl)); (case xm => k_dflt k_mem); (case xo => k_dflt k_asm); (case xk => first | exact rfl | assumption); (case xd => kernel_rfl); k_whole)
  | ((name_kind "globalImplicit"); (with_reducible refine' fastXG ?xF ?xl ?xX ?xT ?xe ?xk ?xd ?_); (case xl => decide +kernel); (case xF => k_asm); (case xX => k_asm); (case xT => k_asm); (case xe => k_dflt k_is); (case xk => first | exact rfl | assumption); (case xd => kernel_rfl); k_whole)
  | ((name_kind "globalImplicit"); name_is_builtin; (with_reducible refine' fastXB ?xF ?xl ?xX ?xT ?xe ?xv ?xn ?xk ?xd ?_); (case xl => kernel_rfl); (case xF => k_asm); (case xX => k_asm); (case xT => k_asm); (case xe => k_dflt k_is); (case xv => k_dflt (first | boot_fast | boot_by_name)); (case xn => decide); (case xk => first | exact rfl | assumption); (case xd => kernel_rfl); k_whole)
  | ((name_kind "local"); (with_reducible refine' fastYL ?xF ?xl ?xv ?xk ?xd ?_); (case xl => decide +kernel); (case xF => k_asm); (case xk => first | exact rfl | assumption); (case xd => kernel_rfl); (case xv => k_dflt (exact rfl)); k_whole)
  | ((name_kind "cell"); (with_reducible refine' fastYC ?xN ?xl ?xc ?xm ?xo ?xk ?xd ?_); (case xl => decide +kernel); (case xN => k_asm); (case xc => k_dflt (exact rfl)); (case xm => k_dflt k_mem); (case xo => k_dflt k_asm); (case xk => first | exact rfl | assumption); (case xd => kernel_rfl); k_whole)
  | ((name_kind "globalImplicit"); (with_reducible refine' fastYG ?xF ?xl ?xX ?xT ?xe ?xk ?xd ?_); (case xl => decide +kernel); (case xF => k_asm); (case xX => k_asm); (case xT => k_asm); (case xe => k_dflt k_is); (case xk => first | exact rfl | assumption); (case xd => kernel_rfl); k_whole)
  | ((name_kind "globalImplicit"); name_is_builtin; (with_reducible refine' fastYB ?xF ?xl ?xX ?xT ?xe ?xv ?xn ?xk ?xd ?_); (case xl => kernel_rfl); (case xF => k_asm); (case xX => k_asm); (case xT => k_asm); (case xe => k_dflt k_is); (case xv => k_dflt (first | boot_fast | boot_by_name)); (case xn => decide); (case xk => first | exact rfl | assumption); (case xd => kernel_rfl); k_whole)
  | ((name_kind "local"); (with_reducible refine' fastCL ?xN ?xl ?xm ?xo ?xv ?xk ?xd ?_); (case xl => decide +kernel); (case xN => k_asm); (case xm => k_dflt k_mem); (case xo => assumption); (case xv => assumption); (case xk => exact rfl); (case xd => kernel_rfl); k_whole)
  | ((name_kind "free"); (with_reducible refine' fastCF ?xN ?xl ?xe ?xs ?xc ?xm ?xo ?xk ?xd ?_); (case xl => decide +kernel); (case xe => kernel_rfl); (case xs => kernel_rfl); (case xN => k_asm); (case xc => k_dflt (exact rfl)); (case xm => k_dflt k_mem); (case xo => k_dflt k_asm); (case xk => exact rfl); (case xd => kernel_rfl); k_whole)
  | ((name_kind "free"); (with_reducible refine' fastCY ?xN ?xl ?xe ?xs ?xc ?xm ?xo ?xk ?xd ?_); (case xl => decide +kernel); (case xe => kernel_rfl); (case xs => kernel_rfl); (case xN => k_asm); (case xc => k_dflt (exact rfl)); (case xm => k_dflt k_mem); (case xo => k_dflt k_asm); (case xk => exact rfl); (case xd => kernel_rfl); k_whole)
  | ((name_kind "globalImplicit"); (with_reducible refine' fastCG ?xF ?xl ?xX ?xT ?xe ?xg ?xk ?xd ?_); (case xl => decide +kernel); (case xF => k_asm); (case xX => k_asm); (case xT => k_asm); (case xe => k_dflt k_is); (case xg => k_dflt (exact rfl)); (case xk => exact rfl); (case xd => kernel_rfl); k_whole)
  | ((name_kind "globalImplicit"); name_is_builtin; (with_reducible refine' fastCB ?xF ?xl ?xX ?xT ?xe ?xv ?xn ?xg ?xb ?xk ?xd ?_); (case xl => kernel_rfl); (case xF => k_asm); (case xX => k_asm); (case xT => k_asm); (case xe => k_dflt k_is); (case xv => k_dflt (first | boot_fast | boot_by_name)); (case xn => decide); (case xg => k_dflt (exact rfl)); (case xb => k_dflt (exact rfl)); (case xk => exact rfl); (case xd => kernel_rfl); k_whole)))
local macro_rules | `(tactic| walk_at "call ref") => `(tactic| ((with_reducible show wpAny _ _ (call (Value.ref 66) _) _ _ _); k_dflt (first
  | (refine' bfo1 ?B ?F ?X ?T ?hk ?hd ?hu ?_)
  | (refine' bfo2 ?B ?F ?X ?T ?hk ?hd ?hu ?hz ?_; (case hz => assumption))); (case B => k_asm); (case F => k_asm); (case X => k_asm); (case T => k_asm); (case hk => first | exact rfl | assumption); (case hd => ktr_room); (case hu => ktr_units); (intro h9 t9 k9 hk9); (have F9 := Fr.keeps (by k_asm) hk9); (have N9 := News.grown (by k_asm) hk9); clear hk9; (try k_sweep)))
local macro_rules | `(tactic| walk_at "binaryOp FloorDiv int int") => `(tactic| ((with_reducible show wpAny _ _ (binaryOp Operator.FloorDiv (Value.int _ _) (Value.int (256 ^ _) _)) _ _ _); (refine floordiv_int (p256_ne _) ?_ (Or.inl (np256 (by omega))))))
local macro_rules | `(tactic| walk_at "callWith builtin:int.to_bytes") => `(tactic| ((with_reducible show wpAny _ _ (callWith _ (Value.builtin _) _ _ (backToKw _ _)) _ _ _); k_dflt (refine callWith_little (P := fun _ => True) keeper_builtin ?_)))
local macro_rules | `(tactic| walk_at "callWith ref") => `(tactic| ((with_reducible show wpAny _ _ (callWith _ (Value.ref _) _ _ (backToKw _ _)) _ _ _); k_dflt (refine callWith_little (P := KFB.StandsAt _) keeper_bound ?_)))
local macro_rules | `(tactic| walk_at "call builtin:int.to_bytes") => `(tactic| ((with_reducible show wpAny _ _ (call (Value.builtin _) _ (kwLittle _)) _ _ _); k_dflt (first | (refine tb_low (k := 2) ?h0 ?h1 (by decide) ?_; (case h0 => omega); (case h1 => omega)) | (refine tb_low (k := 4) ?h0 ?h1 (by decide) ?_; (case h0 => omega); (case h1 => omega)) | (refine tb_low (k := 8) ?h0 ?h1 (by decide) ?_; (case h0 => omega); (case h1 => omega))); intro t8 k8))
local macro_rules | `(tactic| walk_at "call ref") => `(tactic| ((with_reducible show wpAny _ _ (call (Value.ref _) _ (kwLittle _)) _ _ _); k_dflt (refine call_fb_little (by k_asm) (by k_mem) (by omega) ?_); intro _ _))
local macro_rules | `(tactic| walk_at "call builtin:len") => `(tactic| ((with_reducible show wpAny _ _ (call (Value.builtin "len") [Value.ref _]) _ _ _); k_dflt (refine len_baK (by k_asm) (by k_mem) (by omega) ?_); intro _ _))
local macro_rules | `(tactic| walk_at "call type:bytes") => `(tactic| ((with_reducible show wpAny _ _ (call (Value.type "bytes") [Value.ref _]) _ _ _); k_dflt (refine bytes_baK (by k_asm) (by k_mem) (by omega) ?_); intro _ _))
local macro_rules | `(tactic| walk_at "subscriptTail") => `(tactic| ((with_reducible show wpAny _ _ (subscriptTail _ (Expr.Slice _ _ none _) (Value.ref _) (Value.ref _)) _ _ _); (with_reducible rename Fr _ _ _ _ => F'); (with_reducible rename News _ _ _ _ => N'); k_dflt (refine cut_K (s := ⟨_, _, _, _, _⟩) F' N' (by k_mem) (by omega) (by omega) (by omega) (by omega) ?_); intro r' h' c' F' N' l1 hS' hZ'; (try k_lt l1); (try k_sweep)))
local macro_rules | `(tactic| walk_at "subscriptTail") => `(tactic| ((with_reducible show wpAny _ _ (subscriptTail _ (Expr.Constant (Const.int 0) _ _) (Value.bytes _ _) (Value.int _ _)) _ _ _); k_dflt (refine item0_at (by assumption) (by omega) (by omega) (by omega) (by omega) (by assumption) ?_); intro _))
local macro_rules | `(tactic| walk_at "call ref") => `(tactic| ((with_reducible show wpAny _ _ (call (Value.ref _) _ (kwLittle _)) _ _ _); k_dflt (first | refine fbl_at (kk := 2) (by k_asm) (by k_mem) (by assumption) (by omega) (by omega) (by assumption) (by omega) (by omega) (by omega) ?_ | refine fbl_at (kk := 4) (by k_asm) (by k_mem) (by assumption) (by omega) (by omega) (by assumption) (by omega) (by omega) (by omega) ?_ | refine fbl_at (kk := 8) (by k_asm) (by k_mem) (by assumption) (by omega) (by omega) (by assumption) (by omega) (by omega) (by omega) ?_); intro _ _))
local macro_rules | `(tactic| walk_at "truthy bytes") => `(tactic| ((with_reducible show wpAny _ _ (truthy (Value.bytes #[] _)) _ _ _); (refine empty_truthy ?_); intro _))
local macro_rules | `(tactic| k_enter) => `(tactic| ((fail_if_success k_inElt); (refine' code_def ?k1 ?k2 ?k3 ?k4 ?k5 ?kA ?kF ?kK ?k6 ?k7 ?k8 ?k9 ?kB ?_ ?c2 ?c3 ?c4 ?c5; (case kA => exact rfl); (case kF => exact rfl); (case kK => first | exact rfl | assumption); (case k1 => k_asm); (case k2 => k_asm); (case k3 => k_asm); (case k4 => k_asm); (case k5 => k_asm); (case k6 => k_is); (case k7 => k_is); (case k8 => k_room); (case k9 => refine' binds_as ?kb1 ?kb2; (case kb1 => first | exact BindsTo.of_eq rfl | exact binds_K (by k_in) rfl (by k_is) rfl rfl rfl); (case kb2 => (conv => arg 1; whnf); (repeat (apply same_cons; (focus ((conv => arg 1; arg 1; whnf); (try dsimp only); exact same_rfl)); (focus ((conv => arg 1; arg 1; whnf); (try dsimp only); exact same_rfl)); (conv => arg 1; whnf))); exact same_nil)); (case c5 => decide); (case kB => exact locs rfl); (case c2 => exact rfl); (case c3 => exact rfl); (case c4 => exact rfl); k_whole; intro g' L' h' FG' F' N' B' X' T'; (try dsimp only); (try k_lift B'); (try k_fold))))
local macro_rules | `(tactic| walk_at "call ref") => `(tactic| ((with_reducible show wpAny _ _ (call (Value.ref 291) _) _ _ _); k_dflt (refine' read_K ?kB ?kF ?kX ?kT ?kK ?kd ?ku ?kN ?l1 ?l2 ?kz ?h0 ?h1 ?h2 ?h3 ?_; (case kB => k_asm); (case kF => k_asm); (case kX => k_asm); (case kT => k_asm); (case kK => first | exact rfl | assumption); (case kd => ktr_room); (case ku => ktr_units); (case kN => k_asm); (case l1 => first | assumption | omega); (case l2 => first | assumption | omega); (case kz => omega); (case h0 => omega); (case h1 => omega); (case h2 => omega); (case h3 => omega)); intro h9 k9 c9 t9 t39 p9 F9 N9 hS9 hZ9 hP9; (((try (first | (replace hZ9 : ((Array.size c9 : Nat) : Int) = 0 := (by omega)) | (replace hZ9 : ((Array.size c9 : Nat) : Int) = 1 := (by omega)) | (replace hZ9 : ((Array.size c9 : Nat) : Int) = 2 := (by omega)) | (replace hZ9 : ((Array.size c9 : Nat) : Int) = 3 := (by omega)) | (replace hZ9 : ((Array.size c9 : Nat) : Int) = 4 := (by omega)) | (replace hZ9 : ((Array.size c9 : Nat) : Int) = 7 := (by omega)) | (replace hZ9 : ((Array.size c9 : Nat) : Int) = 8 := (by omega)))))); (try k_sweep)))
local macro_rules | `(tactic| walk_at "And") => `(tactic| ((with_reducible show PySem.Str.length (_ ++ _) ≤ sizeLine ∧ wpAny _ _ (joinParts _ _) _ _ _); k_dflt (refine' and_jp _ ?jpa ?jpb ?jpk ?_; (case jpa => first | (with_reducible assumption) | exact Nat.le_refl _); (case jpb => first | (with_reducible exact num300 (by omega) (by omega)) | (with_reducible assumption) | exact Nat.le_of_ble_eq_true rfl); (case jpk => exact Nat.le_of_ble_eq_true rfl)); (intro _ _)))
local macro_rules | `(tactic| walk_at "joinParts") => `(tactic| (k_dflt (first | refine' jp_nilE _ ?jpm ?jpn ?_ | refine' jp_nil _ ?jpm ?jpn ?_); (case jpm => (with_reducible assumption)); (case jpn => exact Nat.le_of_ble_eq_true rfl)))
local macro_rules | `(tactic| walk_at "ite") => `(tactic| ((with_reducible show if (@BEq.beq Int _ _ _) = true then _ else _); k_dflt (first | refine ite_neI (by omega) ?_ | refine ite_eqI (by omega) ?_)))
local macro_rules | `(tactic| walk_at "call ref") => `(tactic| ((with_reducible show wpAny _ _ (call (Value.ref 649) _) _ _ _); k_dflt (first
  | (refine' hx ?B ?F ?X ?T ?hk ?hd ?hu ?h0 ?h1 ?_; (case B => k_asm); (case F => k_asm); (case X => k_asm); (case T => k_asm); (case hk => first | exact rfl | assumption); (case hd => ktr_room); (case hu => ktr_units); (case h0 => omega); (case h1 => omega); (intro z9 hz9 h9 t9 k9 hk9); (have F9 := Fr.keeps (by k_asm) hk9); (have N9 := News.grown (by k_asm) hk9); clear hk9; (try k_sweep))
  | (refine wpAny_call ?_; ((refine' code_ownX (binds := [(Str.ofString "i", Value.int mo tm)]) ?k1 ?k2 ?k3 ?k5 ?kA ?kF ?kK ?k6 ?k7 ?k8 ?k9 ?kB ?kD ?_ ?c2 ?c3 ?c4; (case kA => exact rfl); (case kF => exact rfl); (case kK => first | exact rfl | assumption); (case k1 => k_asm); (case k2 => k_asm); (case k3 => k_asm); (case k5 => k_asm); (case k6 => k_is); (case k7 => k_is); (case k8 => ktr_room); (case k9 => first | exact BindsTo.of_eq rfl | exact binds_K (by k_in) rfl (by k_is) rfl rfl rfl); (case kB => exact rfl); (case kD => decide +kernel); (case c2 => exact rfl); (case c3 => exact rfl); (case c4 => exact rfl); k_whole; intro L' h' tk' cells' F' N' Y' B' X' T'; k_cells Y'; (try simp only [List.cons_append, List.nil_append] at N'); (try dsimp only); (try k_lift B'); (try k_fold)))))))
local macro_rules | `(tactic| walk_at "exec Raise some none") => `(tactic| ((with_reducible show wpAny _ _ (exec (Stmt.Raise _ none _) (envOfC _ _ _ _ _)) _ _ _); k_dflt (refine' Raise_ownE ?roF ?rog ?roO PySem.F.excBase_Exception ?ron PySem.F.excBase_ValueError ?roh ?_ ?roa ?rob ?roc ?rod ?roe ?rof; (case roF => k_asm); (case rog => exact TopRead.g (by k_asm)); (case roO => exact own_of_in (by k_asm) (by k_asm) (by k_is) (by k_exc)); (case ron => rfl); (case roh => first | rfl | assumption); (case roa => rfl); (case rob => rfl); (case roc => rfl); (case rod => rfl); (case roe => rfl); (case rof => decide); k_whole)))
local macro_rules | `(tactic| walk_at "leaving ref") => `(tactic| ((with_reducible show wpAny _ _ (leaving (envOfC _ _ _ _ _) _) _ _ _); k_dflt (refine' leave_raiseSX ?lvf ?lvk ?lv1 ?lv0 ?lv2 ?lv3 ?_; (case lv0 => first | assumption | exact Heap.MadeExc.of (by assumption)); (case lv2 => assumption); (case lv1 => assumption); (case lv3 => k_asm); (case lvf => rfl); (case lvk => rfl); k_whole; intro h' t' S' R' U'; (try dsimp only at S' R' U' ⊢))))
local macro_rules | `(tactic| walk_at "ite") => `(tactic| (k_closed; with_reducible (first | (refine' iteBT ?hIte ?_; (case hIte => decide +kernel)) | (refine' iteBF ?hIte ?_; (case hIte => decide +kernel)))))
local macro_rules | `(tactic| walk_at "ite") => `(tactic| with_reducible (first | refine iteTT ?_ | refine iteFT ?_ | refine iteNeS ?_ | refine iteEqS ?_))
inductive RdC (b : Array UInt8) (mo : Int) (R : Int → Prop) (N : Prop) : Int → Prop
  | w1 {n : Int} (hb : b.toList = 253 :: (lowI n 2).toList) (hz : (b.size : Int) = 3) (hn : 0 ≤ n) (hn' : n < 65536) (hm0 : 0 ≤ mo) (ho : 253 ≤ n → n ≤ mo → R n) (hs : n < 253 → N) (hl : 253 ≤ n → mo < n → N) : RdC b mo R N 253
  | s1 (hz : (b.size : Int) = 2) (hs : N) : RdC b mo R N 253
  | w2 {n : Int} (hb : b.toList = 254 :: (lowI n 4).toList) (hz : (b.size : Int) = 5) (hn : 0 ≤ n) (hn' : n < 4294967296) (hm0 : 0 ≤ mo) (ho : 65536 ≤ n → n ≤ mo → R n) (hs : n < 65536 → N) (hl : 65536 ≤ n → mo < n → N) : RdC b mo R N 254
  | s2 (hz : (b.size : Int) = 4) (hs : N) : RdC b mo R N 254
  | w3 {n : Int} (hb : b.toList = 255 :: (lowI n 8).toList) (hz : (b.size : Int) = 9) (hn : 0 ≤ n) (hn' : n < 18446744073709551616) (hm0 : 0 ≤ mo) (ho : 4294967296 ≤ n → n ≤ mo → R n) (hs : n < 4294967296 → N) (hl : 4294967296 ≤ n → mo < n → N) : RdC b mo R N 255
  | s3 (hz : (b.size : Int) = 8) (hs : N) : RdC b mo R N 255
  | z {n : Int} (hz : (b.size : Int) = 1) (hn : 0 ≤ n) (hn' : n < 253) (hm0 : 0 ≤ mo) (ho : n ≤ mo → R n) (hl : mo < n → N) : RdC b mo R N n
  | y {n : Int} (hz : (b.size : Int) = 1) (hn : 0 ≤ n) (hn' : n < 253) (hm0 : mo < 0) (hs : N) : RdC b mo R N n
section
variable {w : World} {mean : ExcName → Option Value} {mg mb : Str → Option Value} {dp un : Nat} {gd : Option (List Code)} {cn : Str} {cs : Scope} {a : Addr} {ccd : Value} {cl : List (Str × Addr)} {outer : List Env} {A₀ : Around} {base h₀ : Heap} {L : Addr} {m : Str → Option Value} {s : Shared} {Q E : Value → Shared → Prop}
set_option maxHeartbeats 20000000 in
theorem rd_all (B : Below A₀ base outer h₀) (F : Fr h₀ L s.heap m) (X : (hd.heap_39 w.params).In h₀) (T : Top hd.view_39 Lz mean mg mb h₀) (XB : (hd.heap_39 w.params).In base) (TB : Top hd.view_39 Lz mean mg mb base) (D : KtsDicts (fsOf outer) h₀) (hk : cs.kind = .function) (hdp : dp + 16 < recursionLimit) (hun : un + 120 < cLine)
    {b : Array UInt8} {tb tm : Tok} {mo : Int} {v : Int} (hb0 : (((b.toList.getD 0 0).toNat : Nat) : Int) = v) (hz1 : 1 ≤ (b.size : Int)) (hz2 : (b.size : Int) ≤ 9) (hc : RdC b mo (fun n => RetT s (L :: fsOf outer) Q fun t => .int n t) (RetT s (L :: fsOf outer) Q fun t => .str (Str.ofString "refused") t) v) :
    wpC (model Challenge.pw_ez0013_01 w) (ktrTop dp un gd cn cs L a ccd cl outer) (call (.ref 720) [.bytes b tb, .int mo tm]) Q E s := by
  refine fill (Q := PySem.Challenge.rw_ez0013_01 = PySem.Challenge.rw_ez0013_01 ∧ hd.heap_39 = hd.heap_39) ?_
  k_fill
  refine ⟨⟨rfl, rfl⟩, ?_⟩
  have D1 := own_dictsX (cn := cn) (cs := cs) (a := a) (ccd := ccd) (cl := cl) F D
  refine wpC_call ?_
  k_dflt (((refine' code_ownC (binds := [(Str.ofString "octets", Value.bytes b tb), (Str.ofString "most", Value.int mo tm)]) ?k1 ?k2 ?k3 ?k5 ?kA ?kF ?kK ?k6 ?k7 ?k8 ?k9 ?kB ?_ ?c2 ?c3 ?c4 ?c5; (case kA => exact rfl); (case kF => exact rfl); (case kK => first | exact rfl | assumption); (case k1 => k_asm); (case k2 => k_asm); (case k3 => k_asm); (case k5 => k_asm); (case k6 => k_is); (case k7 => k_is); (case k8 => ktr_room); (case k9 => first | exact BindsTo.of_eq rfl | exact binds_K (by k_in) rfl (by k_is) rfl rfl rfl); (case c5 => decide); (case kB => exact locs rfl); (case c2 => exact rfl); (case c3 => exact rfl); (case c4 => exact rfl); k_whole; intro L' h' F' N' B' X' T'; (try dsimp only); (try k_lift B'); (try k_fold))))
  refine wpC_execs ?_
  refine wpC_Try ?_
  refine wpC_execs ?_
  refine wpC_Return ?_
  refine wpC_Call_Name ?_
  repeat' ((fail_if_success (with_reducible show wpC _ _ _ _ _ _)); (first | (k_unfold; (try dsimp only)) | (k_end; wrow_close) | walk1 | (dsimp only; walk1) | (leave1; (try dsimp only)) | fail "no step"))
  refine' wpC_callWith_K ?kX ?kI ?_; (case kX => k_asm); (case kI => k_is)
  repeat' ((fail_if_success (with_reducible show wpC _ _ _ _ _ _)); (first | (k_unfold; (try dsimp only)) | (k_end; wrow_close) | walk1 | (dsimp only; walk1) | (leave1; (try dsimp only)) | fail "no step"))
  refine wpC_call ?_
  k_dflt (((refine' code_dC (binds := [(Str.ofString "stream", Value.bytes b tb), (Str.ofString "max_size", Value.int mo tm)]) ?k1 ?k2 ?k3 ?k4 ?k5 ?kA ?kF ?kK ?k6 ?k7 ?k8 ?k9 ?kB ?_ ?c2 ?c3 ?c4 ?c5; (case kA => exact rfl); (case kF => exact rfl); (case kK => exact rfl); (case k1 => k_asm); (case k2 => k_asm); (case k3 => k_asm); (case k4 => k_asm); (case k5 => k_asm); (case k6 => k_is); (case k7 => k_is); (case k8 => ktr_room); (case k9 => first | exact BindsTo.of_eq rfl | exact binds_K (by k_in) rfl (by k_is) rfl rfl rfl); (case c5 => decide); (case kB => exact locs rfl); (case c2 => exact rfl); (case c3 => exact rfl); (case c4 => exact rfl); k_whole; intro g' L' h' FG' F' N' B' X' T'; (try dsimp only); (try k_lift B'); (try k_fold))))
  refine wpC_execs ?_
  refine wpC_any ?_
  repeat' ((fail_if_success (with_reducible show wpC _ _ _ _ _ _)); (first | (k_unfold; (try dsimp only)) | (k_end; wrow_close) | walk1 | (dsimp only; walk1) | (leave1; (try dsimp only)) | fail "no step"))
  refine wpC_execs ?_
  refine wpC_Assign_Name ?_
  refine wpC_Call_Name ?_
  repeat' ((fail_if_success (with_reducible show wpC _ _ _ _ _ _)); (first | (k_unfold; (try dsimp only)) | (k_end; wrow_close) | walk1 | (dsimp only; walk1) | (leave1; (try dsimp only)) | fail "no step"))
  refine' wpC_callWith_K ?kX ?kI ?_; (case kX => k_asm); (case kI => k_is)
  repeat' ((fail_if_success (with_reducible show wpC _ _ _ _ _ _)); (first | (k_unfold; (try dsimp only)) | (k_end; wrow_close) | walk1 | (dsimp only; walk1) | (leave1; (try dsimp only)) | fail "no step"))
  ((refine' io_from ?kB ?kF ?kX ?kT ?kK ?kd ?ku ?kz ?_; (case kB => k_asm); (case kF => k_asm); (case kX => k_asm); (case kT => k_asm); (case kK => exact rfl); (case kd => ktr_room); (case ku => ktr_units); (case kz => omega); intro h9 k9 La9 q9 x9 dx9 t19 t29 t39 hk9 hN9 l19 l29; (have F9 := Fr.keeps (by k_asm) hk9); (have N9 := news_own (by k_asm) hN9); clear hk9 hN9; (try k_lt2 l19); (try k_lt2 l29); (try k_sweep)))
  repeat' ((fail_if_success (with_reducible show wpC _ _ _ _ _ _)); (first | (k_unfold; (try dsimp only)) | (k_end; wrow_close) | walk1 | (dsimp only; walk1) | (leave1; (try dsimp only)) | fail "no step"))
  refine wpC_execs ?_
  refine wpC_any ?_
  repeat' ((fail_if_success (with_reducible show wpC _ _ _ _ _ _)); (first | (k_unfold; (try dsimp only)) | (k_end; wrow_close) | walk1 | (dsimp only; walk1) | (leave1; (try dsimp only)) | fail "no step"))
  refine wpC_execs ?_
  refine wpC_any ?_
  repeat' ((fail_if_success (with_reducible show wpC _ _ _ _ _ _)); (first | (k_unfold; (try dsimp only)) | (k_end; wrow_close) | walk1 | (dsimp only; walk1) | (leave1; (try dsimp only)) | fail "no step"))
  refine wpC_execs ?_
  refine wpC_any ?_
  repeat' ((fail_if_success (with_reducible show wpC _ _ _ _ _ _)); (first | (k_unfold; (try dsimp only)) | (k_end; wrow_close) | walk1 | (dsimp only; walk1) | (leave1; (try dsimp only)) | fail "no step"))
  rcases hc with ⟨hb, hz, hn, hn', hm0, ho, hs, hl⟩ | ⟨hz, hs⟩ | ⟨hb, hz, hn, hn', hm0, ho, hs, hl⟩ | ⟨hz, hs⟩ | ⟨hb, hz, hn, hn', hm0, ho, hs, hl⟩ | ⟨hz, hs⟩ | ⟨hz, hn, hn', hm0, ho, hl⟩ | ⟨hz, hn, hn', hm0, hs⟩
  all_goals (refine wpC_any ?_)
  all_goals k_steps
  all_goals first | exact (ho (by omega) (by omega)) _ _ _ (Back.of_keep (by assumption)) | exact (ho (by omega) (by omega)) _ _ _ (Back.of_turn (by assumption) (by assumption)) | exact (hs (by omega)) _ _ _ (Back.of_keep (by assumption)) | exact (hs (by omega)) _ _ _ (Back.of_turn (by assumption) (by assumption)) | exact (hl (by omega) (by omega)) _ _ _ (Back.of_keep (by assumption)) | exact (hl (by omega) (by omega)) _ _ _ (Back.of_turn (by assumption) (by assumption)) | exact hs _ _ _ (Back.of_keep (by assumption)) | exact hs _ _ _ (Back.of_turn (by assumption) (by assumption)) | exact (ho (by omega)) _ _ _ (Back.of_keep (by assumption)) | exact (ho (by omega)) _ _ _ (Back.of_turn (by assumption) (by assumption)) | exact (hl (by omega)) _ _ _ (Back.of_keep (by assumption)) | exact (hl (by omega)) _ _ _ (Back.of_turn (by assumption) (by assumption))
set_option maxHeartbeats 1500000 in
theorem rd_empty (B : Below A₀ base outer h₀) (F : Fr h₀ L s.heap m) (X : (hd.heap_39 w.params).In h₀) (T : Top hd.view_39 Lz mean mg mb h₀) (XB : (hd.heap_39 w.params).In base) (TB : Top hd.view_39 Lz mean mg mb base) (D : KtsDicts (fsOf outer) h₀) (hk : cs.kind = .function) (hdp : dp + 16 < recursionLimit) (hun : un + 120 < cLine)
    {b : Array UInt8} {tb tm : Tok} {mo : Int} (hz : (b.size : Int) = 0) (hret : RetT s (L :: fsOf outer) Q fun t => .str (Str.ofString "refused") t) :
    wpC (model Challenge.pw_ez0013_01 w) (ktrTop dp un gd cn cs L a ccd cl outer) (call (.ref 720) [.bytes b tb, .int mo tm]) Q E s := by
  have D1 := own_dictsX (cn := cn) (cs := cs) (a := a) (ccd := ccd) (cl := cl) F D
  refine wpC_call ?_
  k_dflt (((refine' code_ownC (binds := [(Str.ofString "octets", Value.bytes b tb), (Str.ofString "most", Value.int mo tm)]) ?k1 ?k2 ?k3 ?k5 ?kA ?kF ?kK ?k6 ?k7 ?k8 ?k9 ?kB ?_ ?c2 ?c3 ?c4 ?c5; (case kA => exact rfl); (case kF => exact rfl); (case kK => first | exact rfl | assumption); (case k1 => k_asm); (case k2 => k_asm); (case k3 => k_asm); (case k5 => k_asm); (case k6 => k_is); (case k7 => k_is); (case k8 => ktr_room); (case k9 => first | exact BindsTo.of_eq rfl | exact binds_K (by k_in) rfl (by k_is) rfl rfl rfl); (case c5 => decide); (case kB => exact locs rfl); (case c2 => exact rfl); (case c3 => exact rfl); (case c4 => exact rfl); k_whole; intro L' h' F' N' B' X' T'; (try dsimp only); (try k_lift B'); (try k_fold))))
  refine wpC_execs ?_
  refine wpC_Try ?_
  refine wpC_execs ?_
  refine wpC_Return ?_
  refine wpC_Call_Name ?_
  repeat' ((fail_if_success (with_reducible show wpC _ _ _ _ _ _)); (first | (k_unfold; (try dsimp only)) | (k_end; wrow_close) | walk1 | (dsimp only; walk1) | (leave1; (try dsimp only)) | fail "no step"))
  refine' wpC_callWith_K ?kX ?kI ?_; (case kX => k_asm); (case kI => k_is)
  repeat' ((fail_if_success (with_reducible show wpC _ _ _ _ _ _)); (first | (k_unfold; (try dsimp only)) | (k_end; wrow_close) | walk1 | (dsimp only; walk1) | (leave1; (try dsimp only)) | fail "no step"))
  refine wpC_call ?_
  k_dflt (((refine' code_dC (binds := [(Str.ofString "stream", Value.bytes b tb), (Str.ofString "max_size", Value.int mo tm)]) ?k1 ?k2 ?k3 ?k4 ?k5 ?kA ?kF ?kK ?k6 ?k7 ?k8 ?k9 ?kB ?_ ?c2 ?c3 ?c4 ?c5; (case kA => exact rfl); (case kF => exact rfl); (case kK => exact rfl); (case k1 => k_asm); (case k2 => k_asm); (case k3 => k_asm); (case k4 => k_asm); (case k5 => k_asm); (case k6 => k_is); (case k7 => k_is); (case k8 => ktr_room); (case k9 => first | exact BindsTo.of_eq rfl | exact binds_K (by k_in) rfl (by k_is) rfl rfl rfl); (case c5 => decide); (case kB => exact locs rfl); (case c2 => exact rfl); (case c3 => exact rfl); (case c4 => exact rfl); k_whole; intro g' L' h' FG' F' N' B' X' T'; (try dsimp only); (try k_lift B'); (try k_fold))))
  refine wpC_execs ?_
  refine wpC_any ?_
  repeat' ((fail_if_success (with_reducible show wpC _ _ _ _ _ _)); (first | (k_unfold; (try dsimp only)) | (k_end; wrow_close) | walk1 | (dsimp only; walk1) | (leave1; (try dsimp only)) | fail "no step"))
  refine wpC_execs ?_
  refine wpC_Assign_Name ?_
  refine wpC_Call_Name ?_
  repeat' ((fail_if_success (with_reducible show wpC _ _ _ _ _ _)); (first | (k_unfold; (try dsimp only)) | (k_end; wrow_close) | walk1 | (dsimp only; walk1) | (leave1; (try dsimp only)) | fail "no step"))
  refine' wpC_callWith_K ?kX ?kI ?_; (case kX => k_asm); (case kI => k_is)
  repeat' ((fail_if_success (with_reducible show wpC _ _ _ _ _ _)); (first | (k_unfold; (try dsimp only)) | (k_end; wrow_close) | walk1 | (dsimp only; walk1) | (leave1; (try dsimp only)) | fail "no step"))
  ((refine' io_from ?kB ?kF ?kX ?kT ?kK ?kd ?ku ?kz ?_; (case kB => k_asm); (case kF => k_asm); (case kX => k_asm); (case kT => k_asm); (case kK => exact rfl); (case kd => ktr_room); (case ku => ktr_units); (case kz => omega); intro h9 k9 La9 q9 x9 dx9 t19 t29 t39 hk9 hN9 l19 l29; (have F9 := Fr.keeps (by k_asm) hk9); (have N9 := news_own (by k_asm) hN9); clear hk9 hN9; (try k_lt2 l19); (try k_lt2 l29); (try k_sweep)))
  repeat' ((fail_if_success (with_reducible show wpC _ _ _ _ _ _)); (first | (k_unfold; (try dsimp only)) | (k_end; wrow_close) | walk1 | (dsimp only; walk1) | (leave1; (try dsimp only)) | fail "no step"))
  refine wpC_any ?_
  repeat' ((fail_if_success (with_reducible show wpC _ _ _ _ _ _)); (first | (k_unfold; (try dsimp only)) | (k_end; wrow_close) | walk1 | (dsimp only; walk1) | (leave1; (try dsimp only)) | fail "no step"))
  all_goals first | exact hret _ _ _ (Back.of_keep (by assumption)) | exact hret _ _ _ (Back.of_turn (by assumption) (by assumption))
set_option maxHeartbeats 1500000 in
theorem rd_kind (B : Below A₀ base outer h₀) (F : Fr h₀ L s.heap m) (X : (hd.heap_39 w.params).In h₀) (T : Top hd.view_39 Lz mean mg mb h₀) (XB : (hd.heap_39 w.params).In base) (TB : Top hd.view_39 Lz mean mg mb base) (D : KtsDicts (fsOf outer) h₀) (hk : cs.kind = .function) (hdp : dp + 16 < recursionLimit) (hun : un + 120 < cLine)
    {b : Array UInt8} {tb : Tok} (hret : RetT s (L :: fsOf outer) Q fun t => .str (Str.ofString "kind") t) :
    wpC (model Challenge.pw_ez0013_01 w) (ktrTop dp un gd cn cs L a ccd cl outer) (call (.ref 720) [.bytes b tb, .bool true]) Q E s := by
  have D1 := own_dictsX (cn := cn) (cs := cs) (a := a) (ccd := ccd) (cl := cl) F D
  refine wpC_call ?_
  k_dflt (((refine' code_ownC (binds := [(Str.ofString "octets", Value.bytes b tb), (Str.ofString "most", Value.bool true)]) ?k1 ?k2 ?k3 ?k5 ?kA ?kF ?kK ?k6 ?k7 ?k8 ?k9 ?kB ?_ ?c2 ?c3 ?c4 ?c5; (case kA => exact rfl); (case kF => exact rfl); (case kK => first | exact rfl | assumption); (case k1 => k_asm); (case k2 => k_asm); (case k3 => k_asm); (case k5 => k_asm); (case k6 => k_is); (case k7 => k_is); (case k8 => ktr_room); (case k9 => first | exact BindsTo.of_eq rfl | exact binds_K (by k_in) rfl (by k_is) rfl rfl rfl); (case c5 => decide); (case kB => exact locs rfl); (case c2 => exact rfl); (case c3 => exact rfl); (case c4 => exact rfl); k_whole; intro L' h' F' N' B' X' T'; (try dsimp only); (try k_lift B'); (try k_fold))))
  refine wpC_execs ?_
  refine wpC_Try ?_
  refine wpC_execs ?_
  refine wpC_Return ?_
  refine wpC_Call_Name ?_
  repeat' ((fail_if_success (with_reducible show wpC _ _ _ _ _ _)); (first | (k_unfold; (try dsimp only)) | (k_end; wrow_close) | walk1 | (dsimp only; walk1) | (leave1; (try dsimp only)) | fail "no step"))
  refine' wpC_callWith_K ?kX ?kI ?_; (case kX => k_asm); (case kI => k_is)
  repeat' ((fail_if_success (with_reducible show wpC _ _ _ _ _ _)); (first | (k_unfold; (try dsimp only)) | (k_end; wrow_close) | walk1 | (dsimp only; walk1) | (leave1; (try dsimp only)) | fail "no step"))
  refine wpC_call ?_
  k_dflt (((refine' code_dC (binds := [(Str.ofString "stream", Value.bytes b tb), (Str.ofString "max_size", Value.bool true)]) ?k1 ?k2 ?k3 ?k4 ?k5 ?kA ?kF ?kK ?k6 ?k7 ?k8 ?k9 ?kB ?_ ?c2 ?c3 ?c4 ?c5; (case kA => exact rfl); (case kF => exact rfl); (case kK => exact rfl); (case k1 => k_asm); (case k2 => k_asm); (case k3 => k_asm); (case k4 => k_asm); (case k5 => k_asm); (case k6 => k_is); (case k7 => k_is); (case k8 => ktr_room); (case k9 => first | exact BindsTo.of_eq rfl | exact binds_K (by k_in) rfl (by k_is) rfl rfl rfl); (case c5 => decide); (case kB => exact locs rfl); (case c2 => exact rfl); (case c3 => exact rfl); (case c4 => exact rfl); k_whole; intro g' L' h' FG' F' N' B' X' T'; (try dsimp only); (try k_lift B'); (try k_fold))))
  refine wpC_execs ?_
  refine wpC_any ?_
  repeat' ((fail_if_success (with_reducible show wpC _ _ _ _ _ _)); (first | (k_unfold; (try dsimp only)) | (k_end; wrow_close) | walk1 | (dsimp only; walk1) | (leave1; (try dsimp only)) | fail "no step"))
  all_goals first | exact hret _ _ _ (Back.of_keep (by assumption)) | exact hret _ _ _ (Back.of_turn (by assumption) (by assumption))
theorem rd_ok1 (B : Below A₀ base outer h₀) (F : Fr h₀ L s.heap m) (X : (hd.heap_39 w.params).In h₀) (T : Top hd.view_39 Lz mean mg mb h₀) (XB : (hd.heap_39 w.params).In base) (TB : Top hd.view_39 Lz mean mg mb base) (D : KtsDicts (fsOf outer) h₀) (hk : cs.kind = .function) (hdp : dp + 16 < recursionLimit) (hun : un + 120 < cLine)
    {b : Array UInt8} {tb tm : Tok} {mo : Int} {n : Int} (hb : b.toList = 253 :: (lowI n 2).toList) (hb0 : (((b.toList.getD 0 0).toNat : Nat) : Int) = 253) (hz : (b.size : Int) = 3) (hn : 253 ≤ n) (hn' : n < 65536) (hm : n ≤ mo) (hret : RetT s (L :: fsOf outer) Q fun t => .int n t) :
    wpC (model Challenge.pw_ez0013_01 w) (ktrTop dp un gd cn cs L a ccd cl outer) (call (.ref 720) [.bytes b tb, .int mo tm]) Q E s :=
  rd_all B F X T XB TB D hk hdp hun hb0 (by omega) (by omega) (.w1 hb hz (by omega) hn' (by omega) (fun _ _ => hret) (fun _ => absurd hn (by omega)) (fun _ _ => absurd hm (by omega)))
theorem rd_small1 (B : Below A₀ base outer h₀) (F : Fr h₀ L s.heap m) (X : (hd.heap_39 w.params).In h₀) (T : Top hd.view_39 Lz mean mg mb h₀) (XB : (hd.heap_39 w.params).In base) (TB : Top hd.view_39 Lz mean mg mb base) (D : KtsDicts (fsOf outer) h₀) (hk : cs.kind = .function) (hdp : dp + 16 < recursionLimit) (hun : un + 120 < cLine)
    {b : Array UInt8} {tb tm : Tok} {mo : Int} {n : Int} (hb : b.toList = 253 :: (lowI n 2).toList) (hb0 : (((b.toList.getD 0 0).toNat : Nat) : Int) = 253) (hz : (b.size : Int) = 3) (hn : 0 ≤ n) (hn' : n < 253) (hm0 : 0 ≤ mo) (hret : RetT s (L :: fsOf outer) Q fun t => .str (Str.ofString "refused") t) :
    wpC (model Challenge.pw_ez0013_01 w) (ktrTop dp un gd cn cs L a ccd cl outer) (call (.ref 720) [.bytes b tb, .int mo tm]) Q E s :=
  rd_all B F X T XB TB D hk hdp hun hb0 (by omega) (by omega) (.w1 hb hz hn (by omega) hm0 (fun _ _ => absurd hn' (by omega)) (fun _ => hret) (fun _ _ => absurd hn' (by omega)))
theorem rd_short1 (B : Below A₀ base outer h₀) (F : Fr h₀ L s.heap m) (X : (hd.heap_39 w.params).In h₀) (T : Top hd.view_39 Lz mean mg mb h₀) (XB : (hd.heap_39 w.params).In base) (TB : Top hd.view_39 Lz mean mg mb base) (D : KtsDicts (fsOf outer) h₀) (hk : cs.kind = .function) (hdp : dp + 16 < recursionLimit) (hun : un + 120 < cLine)
    {b : Array UInt8} {tb tm : Tok} {mo : Int} (hb0 : (((b.toList.getD 0 0).toNat : Nat) : Int) = 253) (hz : (b.size : Int) = 2) (hret : RetT s (L :: fsOf outer) Q fun t => .str (Str.ofString "refused") t) :
    wpC (model Challenge.pw_ez0013_01 w) (ktrTop dp un gd cn cs L a ccd cl outer) (call (.ref 720) [.bytes b tb, .int mo tm]) Q E s :=
  rd_all B F X T XB TB D hk hdp hun hb0 (by omega) (by omega) (.s1 hz hret)
theorem rd_big1 (B : Below A₀ base outer h₀) (F : Fr h₀ L s.heap m) (X : (hd.heap_39 w.params).In h₀) (T : Top hd.view_39 Lz mean mg mb h₀) (XB : (hd.heap_39 w.params).In base) (TB : Top hd.view_39 Lz mean mg mb base) (D : KtsDicts (fsOf outer) h₀) (hk : cs.kind = .function) (hdp : dp + 16 < recursionLimit) (hun : un + 120 < cLine)
    {b : Array UInt8} {tb tm : Tok} {mo : Int} {n : Int} (hb : b.toList = 253 :: (lowI n 2).toList) (hb0 : (((b.toList.getD 0 0).toNat : Nat) : Int) = 253) (hz : (b.size : Int) = 3) (hn : 253 ≤ n) (hn' : n < 65536) (hm0 : 0 ≤ mo) (hm : mo < n) (hret : RetT s (L :: fsOf outer) Q fun t => .str (Str.ofString "refused") t) :
    wpC (model Challenge.pw_ez0013_01 w) (ktrTop dp un gd cn cs L a ccd cl outer) (call (.ref 720) [.bytes b tb, .int mo tm]) Q E s :=
  rd_all B F X T XB TB D hk hdp hun hb0 (by omega) (by omega) (.w1 hb hz (by omega) hn' hm0 (fun _ _ => absurd hm (by omega)) (fun _ => hret) (fun _ _ => hret))
theorem rd_ok2 (B : Below A₀ base outer h₀) (F : Fr h₀ L s.heap m) (X : (hd.heap_39 w.params).In h₀) (T : Top hd.view_39 Lz mean mg mb h₀) (XB : (hd.heap_39 w.params).In base) (TB : Top hd.view_39 Lz mean mg mb base) (D : KtsDicts (fsOf outer) h₀) (hk : cs.kind = .function) (hdp : dp + 16 < recursionLimit) (hun : un + 120 < cLine)
    {b : Array UInt8} {tb tm : Tok} {mo : Int} {n : Int} (hb : b.toList = 254 :: (lowI n 4).toList) (hb0 : (((b.toList.getD 0 0).toNat : Nat) : Int) = 254) (hz : (b.size : Int) = 5) (hn : 65536 ≤ n) (hn' : n < 4294967296) (hm : n ≤ mo) (hret : RetT s (L :: fsOf outer) Q fun t => .int n t) :
    wpC (model Challenge.pw_ez0013_01 w) (ktrTop dp un gd cn cs L a ccd cl outer) (call (.ref 720) [.bytes b tb, .int mo tm]) Q E s :=
  rd_all B F X T XB TB D hk hdp hun hb0 (by omega) (by omega) (.w2 hb hz (by omega) hn' (by omega) (fun _ _ => hret) (fun _ => absurd hn (by omega)) (fun _ _ => absurd hm (by omega)))
theorem rd_small2 (B : Below A₀ base outer h₀) (F : Fr h₀ L s.heap m) (X : (hd.heap_39 w.params).In h₀) (T : Top hd.view_39 Lz mean mg mb h₀) (XB : (hd.heap_39 w.params).In base) (TB : Top hd.view_39 Lz mean mg mb base) (D : KtsDicts (fsOf outer) h₀) (hk : cs.kind = .function) (hdp : dp + 16 < recursionLimit) (hun : un + 120 < cLine)
    {b : Array UInt8} {tb tm : Tok} {mo : Int} {n : Int} (hb : b.toList = 254 :: (lowI n 4).toList) (hb0 : (((b.toList.getD 0 0).toNat : Nat) : Int) = 254) (hz : (b.size : Int) = 5) (hn : 0 ≤ n) (hn' : n < 65536) (hm0 : 0 ≤ mo) (hret : RetT s (L :: fsOf outer) Q fun t => .str (Str.ofString "refused") t) :
    wpC (model Challenge.pw_ez0013_01 w) (ktrTop dp un gd cn cs L a ccd cl outer) (call (.ref 720) [.bytes b tb, .int mo tm]) Q E s :=
  rd_all B F X T XB TB D hk hdp hun hb0 (by omega) (by omega) (.w2 hb hz hn (by omega) hm0 (fun _ _ => absurd hn' (by omega)) (fun _ => hret) (fun _ _ => absurd hn' (by omega)))
theorem rd_short2 (B : Below A₀ base outer h₀) (F : Fr h₀ L s.heap m) (X : (hd.heap_39 w.params).In h₀) (T : Top hd.view_39 Lz mean mg mb h₀) (XB : (hd.heap_39 w.params).In base) (TB : Top hd.view_39 Lz mean mg mb base) (D : KtsDicts (fsOf outer) h₀) (hk : cs.kind = .function) (hdp : dp + 16 < recursionLimit) (hun : un + 120 < cLine)
    {b : Array UInt8} {tb tm : Tok} {mo : Int} (hb0 : (((b.toList.getD 0 0).toNat : Nat) : Int) = 254) (hz : (b.size : Int) = 4) (hret : RetT s (L :: fsOf outer) Q fun t => .str (Str.ofString "refused") t) :
    wpC (model Challenge.pw_ez0013_01 w) (ktrTop dp un gd cn cs L a ccd cl outer) (call (.ref 720) [.bytes b tb, .int mo tm]) Q E s :=
  rd_all B F X T XB TB D hk hdp hun hb0 (by omega) (by omega) (.s2 hz hret)
theorem rd_big2 (B : Below A₀ base outer h₀) (F : Fr h₀ L s.heap m) (X : (hd.heap_39 w.params).In h₀) (T : Top hd.view_39 Lz mean mg mb h₀) (XB : (hd.heap_39 w.params).In base) (TB : Top hd.view_39 Lz mean mg mb base) (D : KtsDicts (fsOf outer) h₀) (hk : cs.kind = .function) (hdp : dp + 16 < recursionLimit) (hun : un + 120 < cLine)
    {b : Array UInt8} {tb tm : Tok} {mo : Int} {n : Int} (hb : b.toList = 254 :: (lowI n 4).toList) (hb0 : (((b.toList.getD 0 0).toNat : Nat) : Int) = 254) (hz : (b.size : Int) = 5) (hn : 65536 ≤ n) (hn' : n < 4294967296) (hm0 : 0 ≤ mo) (hm : mo < n) (hret : RetT s (L :: fsOf outer) Q fun t => .str (Str.ofString "refused") t) :
    wpC (model Challenge.pw_ez0013_01 w) (ktrTop dp un gd cn cs L a ccd cl outer) (call (.ref 720) [.bytes b tb, .int mo tm]) Q E s :=
  rd_all B F X T XB TB D hk hdp hun hb0 (by omega) (by omega) (.w2 hb hz (by omega) hn' hm0 (fun _ _ => absurd hm (by omega)) (fun _ => hret) (fun _ _ => hret))
theorem rd_ok3 (B : Below A₀ base outer h₀) (F : Fr h₀ L s.heap m) (X : (hd.heap_39 w.params).In h₀) (T : Top hd.view_39 Lz mean mg mb h₀) (XB : (hd.heap_39 w.params).In base) (TB : Top hd.view_39 Lz mean mg mb base) (D : KtsDicts (fsOf outer) h₀) (hk : cs.kind = .function) (hdp : dp + 16 < recursionLimit) (hun : un + 120 < cLine)
    {b : Array UInt8} {tb tm : Tok} {mo : Int} {n : Int} (hb : b.toList = 255 :: (lowI n 8).toList) (hb0 : (((b.toList.getD 0 0).toNat : Nat) : Int) = 255) (hz : (b.size : Int) = 9) (hn : 4294967296 ≤ n) (hn' : n < 18446744073709551616) (hm : n ≤ mo) (hret : RetT s (L :: fsOf outer) Q fun t => .int n t) :
    wpC (model Challenge.pw_ez0013_01 w) (ktrTop dp un gd cn cs L a ccd cl outer) (call (.ref 720) [.bytes b tb, .int mo tm]) Q E s :=
  rd_all B F X T XB TB D hk hdp hun hb0 (by omega) (by omega) (.w3 hb hz (by omega) hn' (by omega) (fun _ _ => hret) (fun _ => absurd hn (by omega)) (fun _ _ => absurd hm (by omega)))
theorem rd_small3 (B : Below A₀ base outer h₀) (F : Fr h₀ L s.heap m) (X : (hd.heap_39 w.params).In h₀) (T : Top hd.view_39 Lz mean mg mb h₀) (XB : (hd.heap_39 w.params).In base) (TB : Top hd.view_39 Lz mean mg mb base) (D : KtsDicts (fsOf outer) h₀) (hk : cs.kind = .function) (hdp : dp + 16 < recursionLimit) (hun : un + 120 < cLine)
    {b : Array UInt8} {tb tm : Tok} {mo : Int} {n : Int} (hb : b.toList = 255 :: (lowI n 8).toList) (hb0 : (((b.toList.getD 0 0).toNat : Nat) : Int) = 255) (hz : (b.size : Int) = 9) (hn : 0 ≤ n) (hn' : n < 4294967296) (hm0 : 0 ≤ mo) (hret : RetT s (L :: fsOf outer) Q fun t => .str (Str.ofString "refused") t) :
    wpC (model Challenge.pw_ez0013_01 w) (ktrTop dp un gd cn cs L a ccd cl outer) (call (.ref 720) [.bytes b tb, .int mo tm]) Q E s :=
  rd_all B F X T XB TB D hk hdp hun hb0 (by omega) (by omega) (.w3 hb hz hn (by omega) hm0 (fun _ _ => absurd hn' (by omega)) (fun _ => hret) (fun _ _ => absurd hn' (by omega)))
theorem rd_short3 (B : Below A₀ base outer h₀) (F : Fr h₀ L s.heap m) (X : (hd.heap_39 w.params).In h₀) (T : Top hd.view_39 Lz mean mg mb h₀) (XB : (hd.heap_39 w.params).In base) (TB : Top hd.view_39 Lz mean mg mb base) (D : KtsDicts (fsOf outer) h₀) (hk : cs.kind = .function) (hdp : dp + 16 < recursionLimit) (hun : un + 120 < cLine)
    {b : Array UInt8} {tb tm : Tok} {mo : Int} (hb0 : (((b.toList.getD 0 0).toNat : Nat) : Int) = 255) (hz : (b.size : Int) = 8) (hret : RetT s (L :: fsOf outer) Q fun t => .str (Str.ofString "refused") t) :
    wpC (model Challenge.pw_ez0013_01 w) (ktrTop dp un gd cn cs L a ccd cl outer) (call (.ref 720) [.bytes b tb, .int mo tm]) Q E s :=
  rd_all B F X T XB TB D hk hdp hun hb0 (by omega) (by omega) (.s3 hz hret)
theorem rd_big3 (B : Below A₀ base outer h₀) (F : Fr h₀ L s.heap m) (X : (hd.heap_39 w.params).In h₀) (T : Top hd.view_39 Lz mean mg mb h₀) (XB : (hd.heap_39 w.params).In base) (TB : Top hd.view_39 Lz mean mg mb base) (D : KtsDicts (fsOf outer) h₀) (hk : cs.kind = .function) (hdp : dp + 16 < recursionLimit) (hun : un + 120 < cLine)
    {b : Array UInt8} {tb tm : Tok} {mo : Int} {n : Int} (hb : b.toList = 255 :: (lowI n 8).toList) (hb0 : (((b.toList.getD 0 0).toNat : Nat) : Int) = 255) (hz : (b.size : Int) = 9) (hn : 4294967296 ≤ n) (hn' : n < 18446744073709551616) (hm0 : 0 ≤ mo) (hm : mo < n) (hret : RetT s (L :: fsOf outer) Q fun t => .str (Str.ofString "refused") t) :
    wpC (model Challenge.pw_ez0013_01 w) (ktrTop dp un gd cn cs L a ccd cl outer) (call (.ref 720) [.bytes b tb, .int mo tm]) Q E s :=
  rd_all B F X T XB TB D hk hdp hun hb0 (by omega) (by omega) (.w3 hb hz (by omega) hn' hm0 (fun _ _ => absurd hm (by omega)) (fun _ => hret) (fun _ _ => hret))
theorem rd_ok0 (B : Below A₀ base outer h₀) (F : Fr h₀ L s.heap m) (X : (hd.heap_39 w.params).In h₀) (T : Top hd.view_39 Lz mean mg mb h₀) (XB : (hd.heap_39 w.params).In base) (TB : Top hd.view_39 Lz mean mg mb base) (D : KtsDicts (fsOf outer) h₀) (hk : cs.kind = .function) (hdp : dp + 16 < recursionLimit) (hun : un + 120 < cLine)
    {b : Array UInt8} {tb tm : Tok} {mo : Int} {n : Int} (hb0 : (((b.toList.getD 0 0).toNat : Nat) : Int) = n) (hz : (b.size : Int) = 1) (hn : 0 ≤ n) (hn' : n < 253) (hm : n ≤ mo) (hret : RetT s (L :: fsOf outer) Q fun t => .int n t) :
    wpC (model Challenge.pw_ez0013_01 w) (ktrTop dp un gd cn cs L a ccd cl outer) (call (.ref 720) [.bytes b tb, .int mo tm]) Q E s :=
  rd_all B F X T XB TB D hk hdp hun hb0 (by omega) (by omega) (.z hz hn hn' (by omega) (fun _ => hret) (fun _ => absurd hm (by omega)))
theorem rd_big0 (B : Below A₀ base outer h₀) (F : Fr h₀ L s.heap m) (X : (hd.heap_39 w.params).In h₀) (T : Top hd.view_39 Lz mean mg mb h₀) (XB : (hd.heap_39 w.params).In base) (TB : Top hd.view_39 Lz mean mg mb base) (D : KtsDicts (fsOf outer) h₀) (hk : cs.kind = .function) (hdp : dp + 16 < recursionLimit) (hun : un + 120 < cLine)
    {b : Array UInt8} {tb tm : Tok} {mo : Int} {n : Int} (hb0 : (((b.toList.getD 0 0).toNat : Nat) : Int) = n) (hz : (b.size : Int) = 1) (hn : 0 ≤ n) (hn' : n < 253) (hm0 : 0 ≤ mo) (hm : mo < n) (hret : RetT s (L :: fsOf outer) Q fun t => .str (Str.ofString "refused") t) :
    wpC (model Challenge.pw_ez0013_01 w) (ktrTop dp un gd cn cs L a ccd cl outer) (call (.ref 720) [.bytes b tb, .int mo tm]) Q E s :=
  rd_all B F X T XB TB D hk hdp hun hb0 (by omega) (by omega) (.z hz hn hn' hm0 (fun _ => absurd hm (by omega)) (fun _ => hret))
theorem rd_bigz (B : Below A₀ base outer h₀) (F : Fr h₀ L s.heap m) (X : (hd.heap_39 w.params).In h₀) (T : Top hd.view_39 Lz mean mg mb h₀) (XB : (hd.heap_39 w.params).In base) (TB : Top hd.view_39 Lz mean mg mb base) (D : KtsDicts (fsOf outer) h₀) (hk : cs.kind = .function) (hdp : dp + 16 < recursionLimit) (hun : un + 120 < cLine)
    {b : Array UInt8} {tb tm : Tok} {mo : Int} {n : Int} (hb0 : (((b.toList.getD 0 0).toNat : Nat) : Int) = n) (hz : (b.size : Int) = 1) (hn : 0 ≤ n) (hn' : n < 253) (hm0 : mo < 0) (hret : RetT s (L :: fsOf outer) Q fun t => .str (Str.ofString "refused") t) :
    wpC (model Challenge.pw_ez0013_01 w) (ktrTop dp un gd cn cs L a ccd cl outer) (call (.ref 720) [.bytes b tb, .int mo tm]) Q E s :=
  rd_all B F X T XB TB D hk hdp hun hb0 (by omega) (by omega) (.y hz hn hn' hm0 hret)
end
end Mine

end
section
open PySem PySem.W PySem.Calls PyProof.Rows
namespace Mine
set_option maxRecDepth 100000
theorem lenA0_size (n : Int) : ((lenA n 0).size : Int) = 1 := rfl
theorem lenA_at {n : Int} {k : Nat} {c : UInt8} : (#[c] ++ lowI n k).toList = c :: (lowI n k).toList := by simp
theorem lenA_sz {n : Int} {k : Nat} {c : UInt8} : ((#[c] ++ lowI n k).size : Int) = k + 1 := by
  rw [Array.size_append, lowI_size]
  show ((1 + k : Nat) : Int) = _
  omega
theorem lenA_hd {n : Int} {k : Nat} {c : UInt8} {v : Int} (hv : ((c.toNat : Nat) : Int) = v) : ((((#[c] ++ lowI n k).toList.getD 0 0).toNat : Nat) : Int) = v := by
  rw [lenA_at]; exact hv
theorem lenA0_hd {n : Int} (h0 : 0 ≤ n) (h1 : n < 256) : ((((lenA n 0).toList.getD 0 0).toNat : Nat) : Int) = n := by
  show ((n.toNat.toUInt8.toNat : Nat) : Int) = n
  rw [Nat.toUInt8, UInt8.toNat_ofNat']
  omega
theorem short_hd {b c : Array UInt8} {k : Nat} (hk : 1 ≤ k) (hc : c.toList = b.toList.take k) : c.toList.getD 0 0 = b.toList.getD 0 0 := by
  rw [hc]
  cases hb : b.toList with
  | nil => simp
  | cons x r =>
    cases k with
    | zero => omega
    | succ k => rfl
theorem lenA_size (n : Int) (k : Nat) : (lenA n k).size = (match k with | 0 => 1 | 1 => 3 | 2 => 5 | _ => 9) := by
  match k with
  | 0 => rfl
  | 1 => show (#[253] ++ lowI n 2).size = 3; rw [Array.size_append, lowI_size]; rfl
  | 2 => show (#[254] ++ lowI n 4).size = 5; rw [Array.size_append, lowI_size]; rfl
  | k + 3 => show (#[255] ++ lowI n 8).size = 9; rw [Array.size_append, lowI_size]; rfl
theorem lenA_le (n : Int) (k : Nat) : 1 ≤ (lenA n k).size ∧ (lenA n k).size ≤ 9 := by
  rw [lenA_size]
  split <;> decide
theorem truthy_len {prog : Program} {w : World} {A : Around} {E : Value → Shared → Prop} {s : Shared} {n : Int} {k : Nat} {t : Tok} {Q : Bool → Shared → Prop} (h : ∀ t', Q true { s with toks := t' }) : wpAny (model prog w) A (truthy (.bytes (lenA n k) t)) Q E s := by
  have z := lenA_le n k
  have e : (((lenA n k).size : Int) != 0) = true := bne_iff_ne.mpr (by omega)
  exact truthy_bytes_at (n := (lenA n k).size) rfl (by omega) fun t' => e ▸ h t'
section
variable {w : World} {mean : ExcName → Option Value} {mg mb : Str → Option Value} {dp un : Nat} {gd : Option (List Code)} {cn : Str} {cs : Scope} {a : Addr} {ccd : Value} {cl : List (Str × Addr)} {outer : List Env} {A₀ : Around} {base h₀ : Heap} {L : Addr} {m : Str → Option Value} {s : Shared} {Q E : Value → Shared → Prop}
theorem rq_ok0 (B : Below A₀ base outer h₀) (F : Fr h₀ L s.heap m) (X : (hd.heap_39 w.params).In h₀) (T : Top hd.view_39 Lz mean mg mb h₀) (XB : (hd.heap_39 w.params).In base) (TB : Top hd.view_39 Lz mean mg mb base) (D : KtsDicts (fsOf outer) h₀) (hk : cs.kind = .function) (hdp : dp + 16 < recursionLimit) (hun : un + 120 < cLine) {tb tm : Tok} {mo n : Int} (hn : 0 ≤ n) (hn' : n < 253) (hm : n ≤ mo) (hret : RetT s (L :: fsOf outer) Q fun t => .int n t) : wpC (model Challenge.pw_ez0013_01 w) (ktrTop dp un gd cn cs L a ccd cl outer) (call (.ref 720) [.bytes (lenA n 0) tb, .int mo tm]) Q E s :=
  rd_ok0 B F X T XB TB D hk hdp hun (lenA0_hd hn (by omega)) (lenA0_size n) hn hn' hm hret
theorem rq_big0 (B : Below A₀ base outer h₀) (F : Fr h₀ L s.heap m) (X : (hd.heap_39 w.params).In h₀) (T : Top hd.view_39 Lz mean mg mb h₀) (XB : (hd.heap_39 w.params).In base) (TB : Top hd.view_39 Lz mean mg mb base) (D : KtsDicts (fsOf outer) h₀) (hk : cs.kind = .function) (hdp : dp + 16 < recursionLimit) (hun : un + 120 < cLine) {tb tm : Tok} {mo n : Int} (hn : 0 ≤ n) (hn' : n < 253) (hm : mo < n) (hret : RetT s (L :: fsOf outer) Q fun t => .str (Str.ofString "refused") t) : wpC (model Challenge.pw_ez0013_01 w) (ktrTop dp un gd cn cs L a ccd cl outer) (call (.ref 720) [.bytes (lenA n 0) tb, .int mo tm]) Q E s := by
  by_cases h : 0 ≤ mo
  · exact rd_big0 B F X T XB TB D hk hdp hun (lenA0_hd hn (by omega)) (lenA0_size n) hn hn' h hm hret
  · exact rd_bigz B F X T XB TB D hk hdp hun (lenA0_hd hn (by omega)) (lenA0_size n) hn hn' (by omega) hret
theorem rq_short0 (B : Below A₀ base outer h₀) (F : Fr h₀ L s.heap m) (X : (hd.heap_39 w.params).In h₀) (T : Top hd.view_39 Lz mean mg mb h₀) (XB : (hd.heap_39 w.params).In base) (TB : Top hd.view_39 Lz mean mg mb base) (D : KtsDicts (fsOf outer) h₀) (hk : cs.kind = .function) (hdp : dp + 16 < recursionLimit) (hun : un + 120 < cLine) {c : Array UInt8} {tb tm : Tok} {mo : Int} (hz : (c.size : Int) = 0) (hret : RetT s (L :: fsOf outer) Q fun t => .str (Str.ofString "refused") t) : wpC (model Challenge.pw_ez0013_01 w) (ktrTop dp un gd cn cs L a ccd cl outer) (call (.ref 720) [.bytes c tb, .int mo tm]) Q E s :=
  rd_empty B F X T XB TB D hk hdp hun hz hret
theorem rq_ok1 (B : Below A₀ base outer h₀) (F : Fr h₀ L s.heap m) (X : (hd.heap_39 w.params).In h₀) (T : Top hd.view_39 Lz mean mg mb h₀) (XB : (hd.heap_39 w.params).In base) (TB : Top hd.view_39 Lz mean mg mb base) (D : KtsDicts (fsOf outer) h₀) (hk : cs.kind = .function) (hdp : dp + 16 < recursionLimit) (hun : un + 120 < cLine) {tb tm : Tok} {mo n : Int} (hn : 253 ≤ n) (hn' : n < 65536) (hm : n ≤ mo) (hret : RetT s (L :: fsOf outer) Q fun t => .int n t) : wpC (model Challenge.pw_ez0013_01 w) (ktrTop dp un gd cn cs L a ccd cl outer) (call (.ref 720) [.bytes (lenA n 1) tb, .int mo tm]) Q E s :=
  rd_ok1 B F X T XB TB D hk hdp hun lenA_at (lenA_hd rfl) lenA_sz hn hn' hm hret
theorem rq_small1 (B : Below A₀ base outer h₀) (F : Fr h₀ L s.heap m) (X : (hd.heap_39 w.params).In h₀) (T : Top hd.view_39 Lz mean mg mb h₀) (XB : (hd.heap_39 w.params).In base) (TB : Top hd.view_39 Lz mean mg mb base) (D : KtsDicts (fsOf outer) h₀) (hk : cs.kind = .function) (hdp : dp + 16 < recursionLimit) (hun : un + 120 < cLine) {tb tm : Tok} {mo n : Int} (hn : 0 ≤ n) (hn' : n < 253) (hm0 : 0 ≤ mo) (hret : RetT s (L :: fsOf outer) Q fun t => .str (Str.ofString "refused") t) : wpC (model Challenge.pw_ez0013_01 w) (ktrTop dp un gd cn cs L a ccd cl outer) (call (.ref 720) [.bytes (lenA n 1) tb, .int mo tm]) Q E s :=
  rd_small1 B F X T XB TB D hk hdp hun lenA_at (lenA_hd rfl) lenA_sz hn hn' hm0 hret
theorem rq_big1 (B : Below A₀ base outer h₀) (F : Fr h₀ L s.heap m) (X : (hd.heap_39 w.params).In h₀) (T : Top hd.view_39 Lz mean mg mb h₀) (XB : (hd.heap_39 w.params).In base) (TB : Top hd.view_39 Lz mean mg mb base) (D : KtsDicts (fsOf outer) h₀) (hk : cs.kind = .function) (hdp : dp + 16 < recursionLimit) (hun : un + 120 < cLine) {tb tm : Tok} {mo n : Int} (hn : 253 ≤ n) (hn' : n < 65536) (h : 0 ≤ mo) (hm : mo < n) (hret : RetT s (L :: fsOf outer) Q fun t => .str (Str.ofString "refused") t) : wpC (model Challenge.pw_ez0013_01 w) (ktrTop dp un gd cn cs L a ccd cl outer) (call (.ref 720) [.bytes (lenA n 1) tb, .int mo tm]) Q E s := by
  exact rd_big1 B F X T XB TB D hk hdp hun lenA_at (lenA_hd rfl) lenA_sz hn hn' h hm hret
theorem rq_short1 (B : Below A₀ base outer h₀) (F : Fr h₀ L s.heap m) (X : (hd.heap_39 w.params).In h₀) (T : Top hd.view_39 Lz mean mg mb h₀) (XB : (hd.heap_39 w.params).In base) (TB : Top hd.view_39 Lz mean mg mb base) (D : KtsDicts (fsOf outer) h₀) (hk : cs.kind = .function) (hdp : dp + 16 < recursionLimit) (hun : un + 120 < cLine) {c : Array UInt8} {tb tm : Tok} {mo n : Int} (hc : c.toList = (lenA n 1).toList.take 2) (hz : (c.size : Int) = 2) (hret : RetT s (L :: fsOf outer) Q fun t => .str (Str.ofString "refused") t) : wpC (model Challenge.pw_ez0013_01 w) (ktrTop dp un gd cn cs L a ccd cl outer) (call (.ref 720) [.bytes c tb, .int mo tm]) Q E s :=
  rd_short1 B F X T XB TB D hk hdp hun (by rw [short_hd (by decide) hc]; exact lenA_hd (k := 2) rfl) hz hret
theorem rq_ok2 (B : Below A₀ base outer h₀) (F : Fr h₀ L s.heap m) (X : (hd.heap_39 w.params).In h₀) (T : Top hd.view_39 Lz mean mg mb h₀) (XB : (hd.heap_39 w.params).In base) (TB : Top hd.view_39 Lz mean mg mb base) (D : KtsDicts (fsOf outer) h₀) (hk : cs.kind = .function) (hdp : dp + 16 < recursionLimit) (hun : un + 120 < cLine) {tb tm : Tok} {mo n : Int} (hn : 65536 ≤ n) (hn' : n < 4294967296) (hm : n ≤ mo) (hret : RetT s (L :: fsOf outer) Q fun t => .int n t) : wpC (model Challenge.pw_ez0013_01 w) (ktrTop dp un gd cn cs L a ccd cl outer) (call (.ref 720) [.bytes (lenA n 2) tb, .int mo tm]) Q E s :=
  rd_ok2 B F X T XB TB D hk hdp hun lenA_at (lenA_hd rfl) lenA_sz hn hn' hm hret
theorem rq_small2 (B : Below A₀ base outer h₀) (F : Fr h₀ L s.heap m) (X : (hd.heap_39 w.params).In h₀) (T : Top hd.view_39 Lz mean mg mb h₀) (XB : (hd.heap_39 w.params).In base) (TB : Top hd.view_39 Lz mean mg mb base) (D : KtsDicts (fsOf outer) h₀) (hk : cs.kind = .function) (hdp : dp + 16 < recursionLimit) (hun : un + 120 < cLine) {tb tm : Tok} {mo n : Int} (hn : 0 ≤ n) (hn' : n < 65536) (hm0 : 0 ≤ mo) (hret : RetT s (L :: fsOf outer) Q fun t => .str (Str.ofString "refused") t) : wpC (model Challenge.pw_ez0013_01 w) (ktrTop dp un gd cn cs L a ccd cl outer) (call (.ref 720) [.bytes (lenA n 2) tb, .int mo tm]) Q E s :=
  rd_small2 B F X T XB TB D hk hdp hun lenA_at (lenA_hd rfl) lenA_sz hn hn' hm0 hret
theorem rq_big2 (B : Below A₀ base outer h₀) (F : Fr h₀ L s.heap m) (X : (hd.heap_39 w.params).In h₀) (T : Top hd.view_39 Lz mean mg mb h₀) (XB : (hd.heap_39 w.params).In base) (TB : Top hd.view_39 Lz mean mg mb base) (D : KtsDicts (fsOf outer) h₀) (hk : cs.kind = .function) (hdp : dp + 16 < recursionLimit) (hun : un + 120 < cLine) {tb tm : Tok} {mo n : Int} (hn : 65536 ≤ n) (hn' : n < 4294967296) (h : 0 ≤ mo) (hm : mo < n) (hret : RetT s (L :: fsOf outer) Q fun t => .str (Str.ofString "refused") t) : wpC (model Challenge.pw_ez0013_01 w) (ktrTop dp un gd cn cs L a ccd cl outer) (call (.ref 720) [.bytes (lenA n 2) tb, .int mo tm]) Q E s := by
  exact rd_big2 B F X T XB TB D hk hdp hun lenA_at (lenA_hd rfl) lenA_sz hn hn' h hm hret
theorem rq_short2 (B : Below A₀ base outer h₀) (F : Fr h₀ L s.heap m) (X : (hd.heap_39 w.params).In h₀) (T : Top hd.view_39 Lz mean mg mb h₀) (XB : (hd.heap_39 w.params).In base) (TB : Top hd.view_39 Lz mean mg mb base) (D : KtsDicts (fsOf outer) h₀) (hk : cs.kind = .function) (hdp : dp + 16 < recursionLimit) (hun : un + 120 < cLine) {c : Array UInt8} {tb tm : Tok} {mo n : Int} (hc : c.toList = (lenA n 2).toList.take 4) (hz : (c.size : Int) = 4) (hret : RetT s (L :: fsOf outer) Q fun t => .str (Str.ofString "refused") t) : wpC (model Challenge.pw_ez0013_01 w) (ktrTop dp un gd cn cs L a ccd cl outer) (call (.ref 720) [.bytes c tb, .int mo tm]) Q E s :=
  rd_short2 B F X T XB TB D hk hdp hun (by rw [short_hd (by decide) hc]; exact lenA_hd (k := 4) rfl) hz hret
theorem rq_ok3 (B : Below A₀ base outer h₀) (F : Fr h₀ L s.heap m) (X : (hd.heap_39 w.params).In h₀) (T : Top hd.view_39 Lz mean mg mb h₀) (XB : (hd.heap_39 w.params).In base) (TB : Top hd.view_39 Lz mean mg mb base) (D : KtsDicts (fsOf outer) h₀) (hk : cs.kind = .function) (hdp : dp + 16 < recursionLimit) (hun : un + 120 < cLine) {tb tm : Tok} {mo n : Int} (hn : 4294967296 ≤ n) (hn' : n < 18446744073709551616) (hm : n ≤ mo) (hret : RetT s (L :: fsOf outer) Q fun t => .int n t) : wpC (model Challenge.pw_ez0013_01 w) (ktrTop dp un gd cn cs L a ccd cl outer) (call (.ref 720) [.bytes (lenA n 3) tb, .int mo tm]) Q E s :=
  rd_ok3 B F X T XB TB D hk hdp hun lenA_at (lenA_hd rfl) lenA_sz hn hn' hm hret
theorem rq_small3 (B : Below A₀ base outer h₀) (F : Fr h₀ L s.heap m) (X : (hd.heap_39 w.params).In h₀) (T : Top hd.view_39 Lz mean mg mb h₀) (XB : (hd.heap_39 w.params).In base) (TB : Top hd.view_39 Lz mean mg mb base) (D : KtsDicts (fsOf outer) h₀) (hk : cs.kind = .function) (hdp : dp + 16 < recursionLimit) (hun : un + 120 < cLine) {tb tm : Tok} {mo n : Int} (hn : 0 ≤ n) (hn' : n < 4294967296) (hm0 : 0 ≤ mo) (hret : RetT s (L :: fsOf outer) Q fun t => .str (Str.ofString "refused") t) : wpC (model Challenge.pw_ez0013_01 w) (ktrTop dp un gd cn cs L a ccd cl outer) (call (.ref 720) [.bytes (lenA n 3) tb, .int mo tm]) Q E s :=
  rd_small3 B F X T XB TB D hk hdp hun lenA_at (lenA_hd rfl) lenA_sz hn hn' hm0 hret
theorem rq_big3 (B : Below A₀ base outer h₀) (F : Fr h₀ L s.heap m) (X : (hd.heap_39 w.params).In h₀) (T : Top hd.view_39 Lz mean mg mb h₀) (XB : (hd.heap_39 w.params).In base) (TB : Top hd.view_39 Lz mean mg mb base) (D : KtsDicts (fsOf outer) h₀) (hk : cs.kind = .function) (hdp : dp + 16 < recursionLimit) (hun : un + 120 < cLine) {tb tm : Tok} {mo n : Int} (hn : 4294967296 ≤ n) (hn' : n < 18446744073709551616) (h : 0 ≤ mo) (hm : mo < n) (hret : RetT s (L :: fsOf outer) Q fun t => .str (Str.ofString "refused") t) : wpC (model Challenge.pw_ez0013_01 w) (ktrTop dp un gd cn cs L a ccd cl outer) (call (.ref 720) [.bytes (lenA n 3) tb, .int mo tm]) Q E s := by
  exact rd_big3 B F X T XB TB D hk hdp hun lenA_at (lenA_hd rfl) lenA_sz hn hn' h hm hret
theorem rq_short3 (B : Below A₀ base outer h₀) (F : Fr h₀ L s.heap m) (X : (hd.heap_39 w.params).In h₀) (T : Top hd.view_39 Lz mean mg mb h₀) (XB : (hd.heap_39 w.params).In base) (TB : Top hd.view_39 Lz mean mg mb base) (D : KtsDicts (fsOf outer) h₀) (hk : cs.kind = .function) (hdp : dp + 16 < recursionLimit) (hun : un + 120 < cLine) {c : Array UInt8} {tb tm : Tok} {mo n : Int} (hc : c.toList = (lenA n 3).toList.take 8) (hz : (c.size : Int) = 8) (hret : RetT s (L :: fsOf outer) Q fun t => .str (Str.ofString "refused") t) : wpC (model Challenge.pw_ez0013_01 w) (ktrTop dp un gd cn cs L a ccd cl outer) (call (.ref 720) [.bytes c tb, .int mo tm]) Q E s :=
  rd_short3 B F X T XB TB D hk hdp hun (by rw [short_hd (by decide) hc]; exact lenA_hd (k := 8) rfl) hz hret
end
def lenZ : Nat → Nat
  | 0 => 1
  | 1 => 3
  | 2 => 5
  | _ => 9
theorem lenA_sizeZ (n : Int) (k : Nat) : (lenA n k).size = lenZ k := by
  rw [lenA_size]; unfold lenZ; split <;> rfl
theorem clip_last (z : Nat) (hz : 1 ≤ z) : clipAt z (-1) = z - 1 := by
  have h := clipAt_cast z (-1)
  rw [if_pos (by decide)] at h
  omega
section
variable {prog : Program} {w : World} {A : Around} {E : Value → Shared → Prop} {s : Shared} {h₀ : Heap} {L : Addr} {m : Str → Option Value} {news : List (Addr × Obj)}
/-- a length without its last octet -/
theorem slice_last {value slice : PySem.Expr} {n : Int} {k : Nat} {t u : Tok} {Q : Value → Shared → Prop} (hF : Fr h₀ L s.heap m) (hN : News h₀ L s.heap news)
    (h : ∀ h' t' k' (c : Array UInt8), Fr h₀ L h' m → News h₀ L h' news → c.toList = (lenA n k).toList.take (lenZ k - 1) → (c.size : Int) = (lenZ k - 1 : Nat) → Q (.bytes c t') { s with heap := h', toks := k' })
    (hs : subscripted slice false (.bytes (lenA n k) t) (.ref s.heap.objs.size) = operate [.ref s.heap.objs.size, .bytes (lenA n k) t] (getItem (.bytes (lenA n k) t) (.ref s.heap.objs.size)) := by with_unfolding_all rfl)
    (ht : ∀ r, letTemporaryGo value (.bytes (lenA n k) t) r = pure () := by intro _; with_unfolding_all rfl) :
    wpAny (model prog w) A (subscriptTail value slice (.bytes (lenA n k) t) (.ref s.heap.objs.size)) Q E { s with heap := s.heap.push { cls := .type "slice", data := .fields #[.none, .int (-1) u, .none] } } := by
  have z := lenA_le n k
  refine slice_B hF hN (lo := none) (hi := some (-1)) (by constructor) (by constructor) (by omega) (fun h' t' k' c F' N' hS hZ => ?_) hs ht
  have z2 := lenA_sizeZ n k
  have e : c.toList = (lenA n k).toList.take (lenZ k - 1) := by
    rw [hS]
    simp only [Option.elim, Nat.sub_zero, List.drop_zero]
    rw [clip_last _ z.1, z2]
  refine h h' t' k' c F' N' e ?_
  have e2 := congrArg List.length e
  rw [List.length_take, Array.length_toList, Array.length_toList, z2] at e2
  omega
end
end Mine

end
section

open PySem PySem.W PySem.Calls PyProof.Rows
namespace Mine
set_option maxRecDepth 100000
local macro_rules | `(tactic| cell_enter) => `(tactic| (refine' code_own ?k1 ?k2 ?k3 ?k5 ?kA ?kF ?kK ?k6 ?k7 ?k8 ?k9 ?kB ?_ ?c2 ?c3 ?c4 ?c5; (case kA => exact rfl); (case kF => exact rfl); (case kK => first | exact rfl | assumption); (case k1 => k_asm); (case k2 => k_asm); (case k3 => k_asm); (case k5 => k_asm); (case k6 => k_is); (case k7 => k_is); (case k8 => ktr_room); (case k9 => first | exact BindsTo.of_eq rfl | exact binds_K (by k_in) rfl (by k_is) rfl rfl rfl); (case c5 => decide); (case kB => exact locs rfl); (case c2 => exact rfl); (case c3 => exact rfl); (case c4 => exact rfl); k_whole; intro L' h' F' N' B' X' T'; (try dsimp only); (try k_lift B'); (try k_fold)))
local macro_rules | `(tactic| walk_at "call type:bytes") => `(tactic| ((with_reducible show wpAny _ _ (call (Value.type "bytes") [Value.bytes _ _]) _ _ _); (refine bytes_of_bytes ?_)))
local macro_rules | `(tactic| k_room) => `(tactic| ktr_room)
local macro_rules | `(tactic| walk_at "call builtin:len") => `(tactic| ((with_reducible show wpAny _ _ (call (Value.builtin "len") [Value.bytes _ _]) _ _ _); (refine len_bytes_at (by assumption) (by omega) ?_); intro _ _))
local macro_rules | `(tactic| walk_at "truthy bytes") => `(tactic| ((with_reducible show wpAny _ _ (truthy (Value.bytes _ _)) _ _ _); (refine truthy_bytes_at (by assumption) (by omega) ?_); intro _))
local macro_rules | `(tactic| walk_at "subscriptTail") => `(tactic| ((with_reducible show wpAny _ _ (subscriptTail _ (Expr.Slice _ _ none _) (Value.bytes _ _) (Value.ref _)) _ _ _); (with_reducible rename Fr _ _ _ _ => F'); (with_reducible rename News _ _ _ _ => N'); (refine slice_B (s := ⟨_, _, _, _, _⟩) F' N' (by constructor) (by constructor) (by omega) ?_); intro h' t' k' c' F' N' hS' hZ'; (dsimp only [Option.elim] at hS'); (dsimp only [Option.elim] at hZ'); (try simp only [List.drop_zero, Nat.sub_zero] at hS'); (try simp only [Nat.sub_zero, clipAt_nat] at hZ'); (try k_sweep)))
local macro_rules | `(tactic| walk_at "binaryOp Mult bytes int") => `(tactic| ((with_reducible show wpAny _ _ (binaryOp Operator.Mult (Value.bytes _ _) (Value.int _ _)) _ _ _); (refine mul_B (by omega) ?n0 ?n1 ?_; (case n0 => first | omega | (simp only [Int.fdiv_eq_ediv_of_nonneg _ (by decide : (0 : Int) ≤ 8)]; omega)); (case n1 => first | omega | (simp only [Int.fdiv_eq_ediv_of_nonneg _ (by decide : (0 : Int) ≤ 8)]; omega))); intro t' k' c' hS' hZ'; (try simp only [Int.fdiv_eq_ediv_of_nonneg _ (by decide : (0 : Int) ≤ 8)] at hZ')))
local macro_rules | `(tactic| walk_at "binaryOp Add bytes bytes") => `(tactic| ((with_reducible show wpAny _ _ (binaryOp Operator.Add (Value.bytes _ _) (Value.bytes _ _)) _ _ _); (refine add_B (by omega) ?_); intro t' k' c' hS' hZ'))
local macro_rules | `(tactic| walk_at "call builtin:len") => `(tactic| ((with_reducible show wpAny _ _ (call (Value.builtin "len") [Value.bytes _ _]) _ _ _); first | ((refine len_bytes_at (by assumption) (by omega) ?_); intro _ _) | ((refine len_B (by omega) ?_); intro _ _)))
local macro_rules | `(tactic| walk_at "call ref") => `(tactic| ((with_reducible show wpAny _ _ (call (Value.ref _) [Value.bytes _ _, Value.str _ _]) _ _ _); k_dflt (refine call_fb_big (by k_asm) (by k_mem) (by omega) ?_); intro _ _))
local macro_rules | `(tactic| walk_at "call type:type") => `(tactic| ((with_reducible show wpAny _ _ (call (Value.type "type") [Value.bytes _ _]) _ _ _); refine call_type_of (Tx := "bytes") (PySem.W.typeIs_bytes _ _ _) (by decide +kernel) ?_))
local macro_rules | `(tactic| walk_at "exec Raise some none") => `(tactic| ((with_reducible show wpAny _ _ (exec (Stmt.Raise (some (Expr.Call (Expr.Name _ _) (_ :: _) [] _)) none _) _) _ _ _); k_dflt (first
  | (refine' Raise_own2 ?F ?g ?O PySem.F.excBase_Exception ?n PySem.F.excBase_ValueError ?h ?_ ?a ?b ?c ?d ?e; (case F => k_asm); (case g => exact TopRead.g (by k_asm)); (case O => exact own_of_in (by k_asm) (by k_asm) (by k_is) (by k_exc)); (case n => rfl); (case h => first | rfl | assumption); (case a => rfl); (case b => rfl); (case c => rfl); (case d => rfl); (case e => decide); k_whole)
  | (refine' Raise_own2 ?F ?g ?O PySem.F.excBase_Exception ?n PySem.F.excBase_TypeError ?h ?_ ?a ?b ?c ?d ?e; (case F => k_asm); (case g => exact TopRead.g (by k_asm)); (case O => exact own_of_in (by k_asm) (by k_asm) (by k_is) (by k_exc)); (case n => rfl); (case h => first | rfl | assumption); (case a => rfl); (case b => rfl); (case c => rfl); (case d => rfl); (case e => decide); k_whole))))
local macro_rules | `(tactic| walk_at "getMethod type:int") => `(tactic| (with_reducible (refine' fast_fb ?kfbF ?kfbN ?kfbX ?_; (case kfbF => k_asm); (case kfbN => k_asm); (case kfbX => k_asm); k_whole); intro x' h' F' N' l1; (try k_lt l1); (try k_sweep)))
local macro_rules | `(tactic| walk_at "eval Name") => `(tactic| (first
  | ((name_kind "local"); (with_reducible refine' fastL ?xF ?xl ?xv ?xk ?xd ?_); (case xl => decide +kernel); (case xF => k_asm); (case xk => first | exact rfl | assumption); (case xd => kernel_rfl); (case xv => k_dflt (exact rfl)); k_whole)
  | ((name_kind "globalImplicit"); (with_reducible refine' fastG ?xF ?xl ?xX ?xT ?xe ?xk ?xd ?_); (case xl => decide +kernel); (case xF => k_asm); (case xX => k_asm); (case xT => k_asm); (case xe => k_dflt k_is); (case xk => first | exact rfl | assumption); (case xd => kernel_rfl); k_whole)
  | ((name_kind "globalImplicit"); name_is_builtin; (with_reducible refine' fastB ?xF ?xl ?xX ?xT ?xe ?xv ?xn ?xk ?xd ?_); (case xl => kernel_rfl); (case xF => k_asm); (case xX => k_asm); (case xT => k_asm); (case xe => k_dflt k_is); (case xv => k_dflt (first | boot_fast | boot_by_name)); (case xn => decide); (case xk => first | exact rfl | assumption); (case xd => kernel_rfl); k_whole)
  | ((name_kind "local"); (with_reducible refine' fastXL ?xF ?xl ?xv ?xk ?xd ?_); (case xl => decide +kernel); (case xF => k_asm); (case xk => first | exact rfl | assumption); (case xd => kernel_rfl); (case xv => k_dflt (exact rfl)); k_whole)
  | ((name_kind "cell"); (with_reducible refine' fastXC ?xN ?xl ?xc ?xm ?xo ?xk ?xd ?_); (case xl => decide +kernel); (case xN => k_asm); (case xc => k_dflt (exact rfl)); (case xm => k_dflt k_mem); (case xo => k_dflt k_asm); (case xk => first | exact rfl | assumption); (case xd => kernel_rfl); k_whole)
  | ((name_kind "globalImplicit"); (with_reducible refine' fastXG ?xF ?xl ?xX ?xT ?xe ?xk ?xd ?_); (case xl => decide +kernel); (case xF => k_asm); (case xX => k_asm); (case xT => k_asm); (case xe => k_dflt k_is); (case xk => first | exact rfl | assumption); (case xd => kernel_rfl); k_whole)
  | ((name_kind "globalImplicit"); name_is_builtin; (with_reducible refine' fastXB ?xF ?xl ?xX ?xT ?xe ?xv ?xn ?xk ?xd ?_); (case xl => kernel_rfl); (case xF => k_asm); (case xX => k_asm); (case xT => k_asm); (case xe => k_dflt k_is); (case xv => k_dflt (first | boot_fast | boot_by_name)); (case xn => decide); (case xk => first | exact rfl | assumption); (case xd => kernel_rfl); k_whole)
  | ((name_kind "local"); (with_reducible refine' fastYL ?xF ?xl ?xv ?xk ?xd ?_); (case xl => decide +kernel); (case xF => k_asm); (case xk => first | exact rfl | assumption); (case xd => kernel_rfl); (case xv => k_dflt (exact rfl)); k_whole)
  | ((name_kind "cell"); (with_reducible refine' fastYC ?xN ?xl ?xc ?xm ?xo ?xk ?xd ?_); (case xl => decide +kernel); (case xN => k_asm); (case xc => k_dflt (exact rfl)); (case xm => k_dflt k_mem); (case xo => k_dflt k_asm); (case xk => first | exact rfl | assumption); (case xd => kernel_rfl); k_whole)
  | ((name_kind "globalImplicit"); (with_reducible refine' fastYG ?xF ?xl ?xX ?xT ?xe ?xk ?xd ?_); (case xl => decide +kernel); (case xF => k_asm); (case xX => k_asm); (case xT => k_asm); (case xe => k_dflt k_is); (case xk => first | exact rfl | assumption); (case xd => kernel_rfl); k_whole)
  | ((name_kind "globalImplicit"); name_is_builtin; (with_reducible refine' fastYB ?xF ?xl ?xX ?xT ?xe ?xv ?xn ?xk ?xd ?_); (case xl => kernel_rfl); (case xF => k_asm); (case xX => k_asm); (case xT => k_asm); (case xe => k_dflt k_is); (case xv => k_dflt (first | boot_fast | boot_by_name)); (case xn => decide); (case xk => first | exact rfl | assumption); (case xd => kernel_rfl); k_whole)
  | ((name_kind "local"); (with_reducible refine' fastCL ?xN ?xl ?xm ?xo ?xv ?xk ?xd ?_); (case xl => decide +kernel); (case xN => k_asm); (case xm => k_dflt k_mem); (case xo => assumption); (case xv => assumption); (case xk => exact rfl); (case xd => kernel_rfl); k_whole)
  | ((name_kind "free"); (with_reducible refine' fastCF ?xN ?xl ?xe ?xs ?xc ?xm ?xo ?xk ?xd ?_); (case xl => decide +kernel); (case xe => kernel_rfl); (case xs => kernel_rfl); (case xN => k_asm); (case xc => k_dflt (exact rfl)); (case xm => k_dflt k_mem); (case xo => k_dflt k_asm); (case xk => exact rfl); (case xd => kernel_rfl); k_whole)
  | ((name_kind "free"); (with_reducible refine' fastCY ?xN ?xl ?xe ?xs ?xc ?xm ?xo ?xk ?xd ?_); (case xl => decide +kernel); (case xe => kernel_rfl); (case xs => kernel_rfl); (case xN => k_asm); (case xc => k_dflt (exact rfl)); (case xm => k_dflt k_mem); (case xo => k_dflt k_asm); (case xk => exact rfl); (case xd => kernel_rfl); k_whole)
  | ((name_kind "globalImplicit"); (with_reducible refine' fastCG ?xF ?xl ?xX ?xT ?xe ?xg ?xk ?xd ?_); (case xl => decide +kernel); (case xF => k_asm); (case xX => k_asm); (case xT => k_asm); (case xe => k_dflt k_is); (case xg => k_dflt (exact rfl)); (case xk => exact rfl); (case xd => kernel_rfl); k_whole)
  | ((name_kind "globalImplicit"); name_is_builtin; (with_reducible refine' fastCB ?xF ?xl ?xX ?xT ?xe ?xv ?xn ?xg ?xb ?xk ?xd ?_); (case xl => kernel_rfl); (case xF => k_asm); (case xX => k_asm); (case xT => k_asm); (case xe => k_dflt k_is); (case xv => k_dflt (first | boot_fast | boot_by_name)); (case xn => decide); (case xg => k_dflt (exact rfl)); (case xb => k_dflt (exact rfl)); (case xk => exact rfl); (case xd => kernel_rfl); k_whole)))
local macro_rules | `(tactic| walk_at "call ref") => `(tactic| ((with_reducible show wpAny _ _ (call (Value.ref 66) _) _ _ _); k_dflt (first
  | (refine' bfo1 ?B ?F ?X ?T ?hk ?hd ?hu ?_)
  | (refine' bfo2 ?B ?F ?X ?T ?hk ?hd ?hu ?hz ?_; (case hz => assumption))); (case B => k_asm); (case F => k_asm); (case X => k_asm); (case T => k_asm); (case hk => first | exact rfl | assumption); (case hd => ktr_room); (case hu => ktr_units); (intro h9 t9 k9 hk9); (have F9 := Fr.keeps (by k_asm) hk9); (have N9 := News.grown (by k_asm) hk9); clear hk9; (try k_sweep)))
local macro_rules | `(tactic| walk_at "binaryOp FloorDiv int int") => `(tactic| ((with_reducible show wpAny _ _ (binaryOp Operator.FloorDiv (Value.int _ _) (Value.int (256 ^ _) _)) _ _ _); (refine floordiv_int (p256_ne _) ?_ (Or.inl (np256 (by omega))))))
local macro_rules | `(tactic| walk_at "callWith builtin:int.to_bytes") => `(tactic| ((with_reducible show wpAny _ _ (callWith _ (Value.builtin _) _ _ (backToKw _ _)) _ _ _); k_dflt (refine callWith_little (P := fun _ => True) keeper_builtin ?_)))
local macro_rules | `(tactic| walk_at "callWith ref") => `(tactic| ((with_reducible show wpAny _ _ (callWith _ (Value.ref _) _ _ (backToKw _ _)) _ _ _); k_dflt (refine callWith_little (P := KFB.StandsAt _) keeper_bound ?_)))
local macro_rules | `(tactic| walk_at "call builtin:int.to_bytes") => `(tactic| ((with_reducible show wpAny _ _ (call (Value.builtin _) _ (kwLittle _)) _ _ _); k_dflt (first | (refine tb_low (k := 2) ?h0 ?h1 (by decide) ?_; (case h0 => omega); (case h1 => omega)) | (refine tb_low (k := 4) ?h0 ?h1 (by decide) ?_; (case h0 => omega); (case h1 => omega)) | (refine tb_low (k := 8) ?h0 ?h1 (by decide) ?_; (case h0 => omega); (case h1 => omega))); intro t8 k8))
local macro_rules | `(tactic| walk_at "call ref") => `(tactic| ((with_reducible show wpAny _ _ (call (Value.ref _) _ (kwLittle _)) _ _ _); k_dflt (refine call_fb_little (by k_asm) (by k_mem) (by omega) ?_); intro _ _))
local macro_rules | `(tactic| walk_at "call builtin:len") => `(tactic| ((with_reducible show wpAny _ _ (call (Value.builtin "len") [Value.ref _]) _ _ _); k_dflt (refine len_baK (by k_asm) (by k_mem) (by omega) ?_); intro _ _))
local macro_rules | `(tactic| walk_at "call type:bytes") => `(tactic| ((with_reducible show wpAny _ _ (call (Value.type "bytes") [Value.ref _]) _ _ _); k_dflt (refine bytes_baK (by k_asm) (by k_mem) (by omega) ?_); intro _ _))
local macro_rules | `(tactic| walk_at "subscriptTail") => `(tactic| ((with_reducible show wpAny _ _ (subscriptTail _ (Expr.Slice _ _ none _) (Value.ref _) (Value.ref _)) _ _ _); (with_reducible rename Fr _ _ _ _ => F'); (with_reducible rename News _ _ _ _ => N'); k_dflt (refine cut_K (s := ⟨_, _, _, _, _⟩) F' N' (by k_mem) (by omega) (by omega) (by omega) (by omega) ?_); intro r' h' c' F' N' l1 hS' hZ'; (try k_lt l1); (try k_sweep)))
local macro_rules | `(tactic| walk_at "subscriptTail") => `(tactic| ((with_reducible show wpAny _ _ (subscriptTail _ (Expr.Constant (Const.int 0) _ _) (Value.bytes _ _) (Value.int _ _)) _ _ _); k_dflt (refine item0_at (by assumption) (by omega) (by omega) (by omega) (by omega) (by assumption) ?_); intro _))
local macro_rules | `(tactic| walk_at "call ref") => `(tactic| ((with_reducible show wpAny _ _ (call (Value.ref _) _ (kwLittle _)) _ _ _); k_dflt (first | refine fbl_at (kk := 2) (by k_asm) (by k_mem) (by assumption) (by omega) (by omega) (by assumption) (by omega) (by omega) (by omega) ?_ | refine fbl_at (kk := 4) (by k_asm) (by k_mem) (by assumption) (by omega) (by omega) (by assumption) (by omega) (by omega) (by omega) ?_ | refine fbl_at (kk := 8) (by k_asm) (by k_mem) (by assumption) (by omega) (by omega) (by assumption) (by omega) (by omega) (by omega) ?_); intro _ _))
local macro_rules | `(tactic| walk_at "truthy bytes") => `(tactic| ((with_reducible show wpAny _ _ (truthy (Value.bytes #[] _)) _ _ _); (refine empty_truthy ?_); intro _))
local macro_rules | `(tactic| k_enter) => `(tactic| ((fail_if_success k_inElt); (refine' code_def ?k1 ?k2 ?k3 ?k4 ?k5 ?kA ?kF ?kK ?k6 ?k7 ?k8 ?k9 ?kB ?_ ?c2 ?c3 ?c4 ?c5; (case kA => exact rfl); (case kF => exact rfl); (case kK => first | exact rfl | assumption); (case k1 => k_asm); (case k2 => k_asm); (case k3 => k_asm); (case k4 => k_asm); (case k5 => k_asm); (case k6 => k_is); (case k7 => k_is); (case k8 => k_room); (case k9 => refine' binds_as ?kb1 ?kb2; (case kb1 => first | exact BindsTo.of_eq rfl | exact binds_K (by k_in) rfl (by k_is) rfl rfl rfl); (case kb2 => (conv => arg 1; whnf); (repeat (apply same_cons; (focus ((conv => arg 1; arg 1; whnf); (try dsimp only); exact same_rfl)); (focus ((conv => arg 1; arg 1; whnf); (try dsimp only); exact same_rfl)); (conv => arg 1; whnf))); exact same_nil)); (case c5 => decide); (case kB => exact locs rfl); (case c2 => exact rfl); (case c3 => exact rfl); (case c4 => exact rfl); k_whole; intro g' L' h' FG' F' N' B' X' T'; (try dsimp only); (try k_lift B'); (try k_fold))))
local macro_rules | `(tactic| walk_at "call ref") => `(tactic| ((with_reducible show wpAny _ _ (call (Value.ref 291) _) _ _ _); k_dflt (refine' read_K ?kB ?kF ?kX ?kT ?kK ?kd ?ku ?kN ?l1 ?l2 ?kz ?h0 ?h1 ?h2 ?h3 ?_; (case kB => k_asm); (case kF => k_asm); (case kX => k_asm); (case kT => k_asm); (case kK => first | exact rfl | assumption); (case kd => ktr_room); (case ku => ktr_units); (case kN => k_asm); (case l1 => first | assumption | omega); (case l2 => first | assumption | omega); (case kz => omega); (case h0 => omega); (case h1 => omega); (case h2 => omega); (case h3 => omega)); intro h9 k9 c9 t9 t39 p9 F9 N9 hS9 hZ9 hP9; (((try (first | (replace hZ9 : ((Array.size c9 : Nat) : Int) = 0 := (by omega)) | (replace hZ9 : ((Array.size c9 : Nat) : Int) = 1 := (by omega)) | (replace hZ9 : ((Array.size c9 : Nat) : Int) = 2 := (by omega)) | (replace hZ9 : ((Array.size c9 : Nat) : Int) = 3 := (by omega)) | (replace hZ9 : ((Array.size c9 : Nat) : Int) = 4 := (by omega)) | (replace hZ9 : ((Array.size c9 : Nat) : Int) = 7 := (by omega)) | (replace hZ9 : ((Array.size c9 : Nat) : Int) = 8 := (by omega)))))); (try k_sweep)))
local macro_rules | `(tactic| walk_at "And") => `(tactic| ((with_reducible show PySem.Str.length (_ ++ _) ≤ sizeLine ∧ wpAny _ _ (joinParts _ _) _ _ _); k_dflt (refine' and_jp _ ?jpa ?jpb ?jpk ?_; (case jpa => first | (with_reducible assumption) | exact Nat.le_refl _); (case jpb => first | (with_reducible exact num300 (by omega) (by omega)) | (with_reducible assumption) | exact Nat.le_of_ble_eq_true rfl); (case jpk => exact Nat.le_of_ble_eq_true rfl)); (intro _ _)))
local macro_rules | `(tactic| walk_at "joinParts") => `(tactic| (k_dflt (first | refine' jp_nilE _ ?jpm ?jpn ?_ | refine' jp_nil _ ?jpm ?jpn ?_); (case jpm => (with_reducible assumption)); (case jpn => exact Nat.le_of_ble_eq_true rfl)))
local macro_rules | `(tactic| walk_at "ite") => `(tactic| ((with_reducible show if (@BEq.beq Int _ _ _) = true then _ else _); k_dflt (first | refine ite_neI (by omega) ?_ | refine ite_eqI (by omega) ?_)))
local macro_rules | `(tactic| walk_at "binaryOp Add bytes bytes") => `(tactic| ((with_reducible show wpAny _ _ (binaryOp Operator.Add (Value.bytes #[_] _) (Value.bytes _ _)) _ _ _); (refine key_add (by omega) ?_); intro _ _))
local macro_rules | `(tactic| walk_at "call ref") => `(tactic| ((with_reducible show wpAny _ _ (call (Value.ref _) _ (kwLittle _)) _ _ _); k_dflt (refine fbl_atR (kk := 2) (by k_asm) (by k_mem) (by assumption) (by omega) (by omega) (by assumption) (by omega) (by omega) (by omega) ?_); intro _ _))
local macro_rules | `(tactic| walk_at "ite") => `(tactic| (k_closed; with_reducible (first | (refine' iteBT ?hIte ?_; (case hIte => decide +kernel)) | (refine' iteBF ?hIte ?_; (case hIte => decide +kernel)))))
local macro_rules | `(tactic| walk_at "ite") => `(tactic| with_reducible (first | refine iteTT ?_ | refine iteFT ?_ | refine iteNeS ?_ | refine iteEqS ?_))
inductive TkC (b : Array UInt8) : Prop
  | size (hb0 : (((b.toList.getD 0 0).toNat : Nat) : Int) = 7) (hz : (b.size : Int) = 9)
  | canon (hb : ∃ r, b.toList = 253 :: ((lowI 8 2).toList ++ r)) (hb0 : (((b.toList.getD 0 0).toNat : Nat) : Int) = 253) (hz : (b.size : Int) = 11)
  | empty (hz : (b.size : Int) = 0)
  | short (hb0 : (((b.toList.getD 0 0).toNat : Nat) : Int) = 8) (hz : 1 ≤ (b.size : Int)) (hz' : (b.size : Int) ≤ 8)
section
variable {w : World} {mean : ExcName → Option Value} {mg mb : Str → Option Value} {dp un : Nat} {gd : Option (List Code)} {cn : Str} {cs : Scope} {a : Addr} {ccd : Value} {cl : List (Str × Addr)} {outer : List Env} {A₀ : Around} {base h₀ : Heap} {L : Addr} {m : Str → Option Value} {s : Shared} {Q E : Value → Shared → Prop}
set_option maxHeartbeats 1500000 in
theorem sk (B : Below A₀ base outer h₀) (F : Fr h₀ L s.heap m) (X : (hd.heap_39 w.params).In h₀) (T : Top hd.view_39 Lz mean mg mb h₀) (hk : cs.kind = .function) (hdp : dp + 12 < recursionLimit) (hun : un + 90 < cLine)
    {k : Array UInt8} {tk : Tok} (hz : (k.size : Int) = 8) (hret : RetK s Q fun t => .bytes (keyB k) t) :
    wpAny (model Challenge.pw_ez0013_01 w) (ktrTop dp un gd cn cs L a ccd cl outer) (call (.ref 701) [.bytes k tk]) Q E s := by
  refine fill (Q := PySem.Challenge.rw_ez0013_01 = PySem.Challenge.rw_ez0013_01 ∧ hd.heap_39 = hd.heap_39) ?_
  k_fill
  refine ⟨⟨rfl, rfl⟩, ?_⟩
  refine wpAny_call ?_
  k_dflt (((refine' code_own (binds := [(Str.ofString "key", Value.bytes k tk)]) ?k1 ?k2 ?k3 ?k5 ?kA ?kF ?kK ?k6 ?k7 ?k8 ?k9 ?kB ?_ ?c2 ?c3 ?c4 ?c5; (case kA => exact rfl); (case kF => exact rfl); (case kK => first | exact rfl | assumption); (case k1 => k_asm); (case k2 => k_asm); (case k3 => k_asm); (case k5 => k_asm); (case k6 => k_is); (case k7 => k_is); (case k8 => ktr_room); (case k9 => first | exact BindsTo.of_eq rfl | exact binds_K (by k_in) rfl (by k_is) rfl rfl rfl); (case c5 => decide); (case kB => exact locs rfl); (case c2 => exact rfl); (case c3 => exact rfl); (case c4 => exact rfl); k_whole; intro L' h' F' N' B' X' T'; (try dsimp only); (try k_lift B'); (try k_fold))))
  repeat' ((fail_if_success (with_reducible show wpC _ _ _ _ _ _)); (first | (k_unfold; (try dsimp only)) | (k_end; wrow_close) | walk1 | (dsimp only; walk1) | (leave1; (try dsimp only)) | fail "no step"))
  all_goals exact cast_bytes (key8 _) (hret _ _ _ (Fr.keep (by assumption)))
set_option maxHeartbeats 1500000 in
theorem pk (B : Below A₀ base outer h₀) (F : Fr h₀ L s.heap m) (X : (hd.heap_39 w.params).In h₀) (T : Top hd.view_39 Lz mean mg mb h₀) (hk : cs.kind = .function) (hdp : dp + 16 < recursionLimit) (hun : un + 120 < cLine)
    {b k : Array UInt8} {tb : Tok} (hz : (k.size : Int) = 8) (hb : ∃ r, b.toList = 8 :: (k.toList ++ r)) (hb0 : (((b.toList.getD 0 0).toNat : Nat) : Int) = 8) (hzb : (b.size : Int) ≤ 13) (hzl : 9 ≤ (b.size : Int)) (hret : RetK s Q fun t => .bytes k t) :
    wpC (model Challenge.pw_ez0013_01 w) (ktrTop dp un gd cn cs L a ccd cl outer) (call (.ref 708) [.bytes b tb]) Q E s := by
  refine wpC_call ?_
  k_dflt (((refine' code_ownC (binds := [(Str.ofString "stream", Value.bytes b tb)]) ?k1 ?k2 ?k3 ?k5 ?kA ?kF ?kK ?k6 ?k7 ?k8 ?k9 ?kB ?_ ?c2 ?c3 ?c4 ?c5; (case kA => exact rfl); (case kF => exact rfl); (case kK => first | exact rfl | assumption); (case k1 => k_asm); (case k2 => k_asm); (case k3 => k_asm); (case k5 => k_asm); (case k6 => k_is); (case k7 => k_is); (case k8 => ktr_room); (case k9 => first | exact BindsTo.of_eq rfl | exact binds_K (by k_in) rfl (by k_is) rfl rfl rfl); (case c5 => decide); (case kB => exact locs rfl); (case c2 => exact rfl); (case c3 => exact rfl); (case c4 => exact rfl); k_whole; intro L' h' F' N' B' X' T'; (try dsimp only); (try k_lift B'); (try k_fold))))
  refine wpC_execs ?_
  refine wpC_Assign_Name ?_
  refine wpC_Call_Name ?_
  repeat' ((fail_if_success (with_reducible show wpC _ _ _ _ _ _)); (first | (k_unfold; (try dsimp only)) | (k_end; wrow_close) | walk1 | (dsimp only; walk1) | (leave1; (try dsimp only)) | fail "no step"))
  refine' wpC_callWith_K ?kX ?kI ?_; (case kX => k_asm); (case kI => k_is)
  repeat' ((fail_if_success (with_reducible show wpC _ _ _ _ _ _)); (first | (k_unfold; (try dsimp only)) | (k_end; wrow_close) | walk1 | (dsimp only; walk1) | (leave1; (try dsimp only)) | fail "no step"))
  ((refine' io_from ?kB ?kF ?kX ?kT ?kK ?kd ?ku ?kz ?_; (case kB => k_asm); (case kF => k_asm); (case kX => k_asm); (case kT => k_asm); (case kK => exact rfl); (case kd => ktr_room); (case ku => ktr_units); (case kz => omega); intro h9 k9 La9 q9 x9 dx9 t19 t29 t39 hk9 hN9 l19 l29; (have F9 := Fr.keeps (by k_asm) hk9); (have N9 := news_own (by k_asm) hN9); clear hk9 hN9; (try k_lt2 l19); (try k_lt2 l29); (try k_sweep)))
  repeat' ((fail_if_success (with_reducible show wpC _ _ _ _ _ _)); (first | (k_unfold; (try dsimp only)) | (k_end; wrow_close) | walk1 | (dsimp only; walk1) | (leave1; (try dsimp only)) | fail "no step"))
  refine wpC_any ?_
  repeat' ((fail_if_success (with_reducible show wpC _ _ _ _ _ _)); (first | (k_unfold; (try dsimp only)) | (k_end; wrow_close) | walk1 | (dsimp only; walk1) | (leave1; (try dsimp only)) | fail "no step"))
  all_goals exact cast_bytes (key_of hb hz (by with_reducible assumption) (by omega)) (hret _ _ _ (Fr.keep (by assumption)))
set_option maxHeartbeats 20000000 in
theorem tk_all (B : Below A₀ base outer h₀) (F : Fr h₀ L s.heap m) (X : (hd.heap_39 w.params).In h₀) (T : Top hd.view_39 Lz mean mg mb h₀) (XB : (hd.heap_39 w.params).In base) (TB : Top hd.view_39 Lz mean mg mb base) (D : KtsDicts (fsOf outer) h₀) (hk : cs.kind = .function) (hdp : dp + 20 < recursionLimit) (hun : un + 150 < cLine)
    {b : Array UInt8} {tb : Tok} (hc : TkC b) (hzz : (b.size : Int) ≤ 11) (hret : RetT s (L :: fsOf outer) Q fun t => .str (Str.ofString "refused") t) :
    wpC (model Challenge.pw_ez0013_01 w) (ktrTop dp un gd cn cs L a ccd cl outer) (call (.ref 727) [.bytes b tb]) Q E s := by
  have D1 := own_dictsX (cn := cn) (cs := cs) (a := a) (ccd := ccd) (cl := cl) F D
  refine wpC_call ?_
  k_dflt (((refine' code_ownC (binds := [(Str.ofString "octets", Value.bytes b tb)]) ?k1 ?k2 ?k3 ?k5 ?kA ?kF ?kK ?k6 ?k7 ?k8 ?k9 ?kB ?_ ?c2 ?c3 ?c4 ?c5; (case kA => exact rfl); (case kF => exact rfl); (case kK => first | exact rfl | assumption); (case k1 => k_asm); (case k2 => k_asm); (case k3 => k_asm); (case k5 => k_asm); (case k6 => k_is); (case k7 => k_is); (case k8 => ktr_room); (case k9 => first | exact BindsTo.of_eq rfl | exact binds_K (by k_in) rfl (by k_is) rfl rfl rfl); (case c5 => decide); (case kB => exact locs rfl); (case c2 => exact rfl); (case c3 => exact rfl); (case c4 => exact rfl); k_whole; intro L' h' F' N' B' X' T'; (try dsimp only); (try k_lift B'); (try k_fold))))
  refine wpC_execs ?_
  refine wpC_Try ?_
  refine wpC_execs ?_
  refine wpC_Return ?_
  refine wpC_Call_Name ?_
  repeat' ((fail_if_success (with_reducible show wpC _ _ _ _ _ _)); (first | (k_unfold; (try dsimp only)) | (k_end; wrow_close) | walk1 | (dsimp only; walk1) | (leave1; (try dsimp only)) | fail "no step"))
  refine' wpC_callWith_K ?kX ?kI ?_; (case kX => k_asm); (case kI => k_is)
  repeat' ((fail_if_success (with_reducible show wpC _ _ _ _ _ _)); (first | (k_unfold; (try dsimp only)) | (k_end; wrow_close) | walk1 | (dsimp only; walk1) | (leave1; (try dsimp only)) | fail "no step"))
  refine wpC_call ?_
  k_dflt (((refine' code_dC (binds := [(Str.ofString "stream", Value.bytes b tb)]) ?k1 ?k2 ?k3 ?k4 ?k5 ?kA ?kF ?kK ?k6 ?k7 ?k8 ?k9 ?kB ?_ ?c2 ?c3 ?c4 ?c5; (case kA => exact rfl); (case kF => exact rfl); (case kK => exact rfl); (case k1 => k_asm); (case k2 => k_asm); (case k3 => k_asm); (case k4 => k_asm); (case k5 => k_asm); (case k6 => k_is); (case k7 => k_is); (case k8 => ktr_room); (case k9 => first | exact BindsTo.of_eq rfl | exact binds_K (by k_in) rfl (by k_is) rfl rfl rfl); (case c5 => decide); (case kB => exact locs rfl); (case c2 => exact rfl); (case c3 => exact rfl); (case c4 => exact rfl); k_whole; intro g' L' h' FG' F' N' B' X' T'; (try dsimp only); (try k_lift B'); (try k_fold))))
  refine wpC_execs ?_
  refine wpC_Assign_Name ?_
  refine wpC_Call_Name ?_
  repeat' ((fail_if_success (with_reducible show wpC _ _ _ _ _ _)); (first | (k_unfold; (try dsimp only)) | (k_end; wrow_close) | walk1 | (dsimp only; walk1) | (leave1; (try dsimp only)) | fail "no step"))
  refine' wpC_callWith_K ?kX ?kI ?_; (case kX => k_asm); (case kI => k_is)
  repeat' ((fail_if_success (with_reducible show wpC _ _ _ _ _ _)); (first | (k_unfold; (try dsimp only)) | (k_end; wrow_close) | walk1 | (dsimp only; walk1) | (leave1; (try dsimp only)) | fail "no step"))
  ((refine' io_from ?kB ?kF ?kX ?kT ?kK ?kd ?ku ?kz ?_; (case kB => k_asm); (case kF => k_asm); (case kX => k_asm); (case kT => k_asm); (case kK => exact rfl); (case kd => ktr_room); (case ku => ktr_units); (case kz => omega); intro h9 k9 La9 q9 x9 dx9 t19 t29 t39 hk9 hN9 l19 l29; (have F9 := Fr.keeps (by k_asm) hk9); (have N9 := news_own (by k_asm) hN9); clear hk9 hN9; (try k_lt2 l19); (try k_lt2 l29); (try k_sweep)))
  repeat' ((fail_if_success (with_reducible show wpC _ _ _ _ _ _)); (first | (k_unfold; (try dsimp only)) | (k_end; wrow_close) | walk1 | (dsimp only; walk1) | (leave1; (try dsimp only)) | fail "no step"))
  refine wpC_execs ?_
  refine wpC_Assign_Name ?_
  refine wpC_Call_Name ?_
  repeat' ((fail_if_success (with_reducible show wpC _ _ _ _ _ _)); (first | (k_unfold; (try dsimp only)) | (k_end; wrow_close) | walk1 | (dsimp only; walk1) | (leave1; (try dsimp only)) | fail "no step"))
  refine' wpC_callWith_K ?kX ?kI ?_; (case kX => k_asm); (case kI => k_is)
  repeat' ((fail_if_success (with_reducible show wpC _ _ _ _ _ _)); (first | (k_unfold; (try dsimp only)) | (k_end; wrow_close) | walk1 | (dsimp only; walk1) | (leave1; (try dsimp only)) | fail "no step"))
  refine wpC_call ?_
  k_dflt (((refine' code_dC ?k1 ?k2 ?k3 ?k4 ?k5 ?kA ?kF ?kK ?k6 ?k7 ?k8 ?k9 ?kB ?_ ?c2 ?c3 ?c4 ?c5; (case kA => exact rfl); (case kF => exact rfl); (case kK => exact rfl); (case k1 => k_asm); (case k2 => k_asm); (case k3 => k_asm); (case k4 => k_asm); (case k5 => k_asm); (case k6 => k_is); (case k7 => k_is); (case k8 => ktr_room); (case k9 => refine' binds_as ?kb1 ?kb2; (case kb1 => first | exact BindsTo.of_eq rfl | exact binds_K (by k_in) rfl (by k_is) rfl rfl rfl); (case kb2 => (conv => arg 1; whnf); (repeat (apply same_cons; (focus ((conv => arg 1; arg 1; whnf); (try dsimp only); exact same_rfl)); (focus ((conv => arg 1; arg 1; whnf); (try dsimp only); exact same_rfl)); (conv => arg 1; whnf))); exact same_nil)); (case c5 => decide); (case kB => exact locs rfl); (case c2 => exact rfl); (case c3 => exact rfl); (case c4 => exact rfl); k_whole; intro g' L' h' FG' F' N' B' X' T'; (try dsimp only); (try k_lift B'); (try k_fold))))
  refine wpC_execs ?_
  refine wpC_any ?_
  repeat' ((fail_if_success (with_reducible show wpC _ _ _ _ _ _)); (first | (k_unfold; (try dsimp only)) | (k_end; wrow_close) | walk1 | (dsimp only; walk1) | (leave1; (try dsimp only)) | fail "no step"))
  refine wpC_execs ?_
  refine wpC_Assign_Name ?_
  refine wpC_Call_Name ?_
  repeat' ((fail_if_success (with_reducible show wpC _ _ _ _ _ _)); (first | (k_unfold; (try dsimp only)) | (k_end; wrow_close) | walk1 | (dsimp only; walk1) | (leave1; (try dsimp only)) | fail "no step"))
  refine' wpC_callWith_K ?kX ?kI ?_; (case kX => k_asm); (case kI => k_is)
  repeat' ((fail_if_success (with_reducible show wpC _ _ _ _ _ _)); (first | (k_unfold; (try dsimp only)) | (k_end; wrow_close) | walk1 | (dsimp only; walk1) | (leave1; (try dsimp only)) | fail "no step"))
  refine wpC_call ?_
  k_dflt (((refine' code_dC ?k1 ?k2 ?k3 ?k4 ?k5 ?kA ?kF ?kK ?k6 ?k7 ?k8 ?k9 ?kB ?_ ?c2 ?c3 ?c4 ?c5; (case kA => exact rfl); (case kF => exact rfl); (case kK => exact rfl); (case k1 => k_asm); (case k2 => k_asm); (case k3 => k_asm); (case k4 => k_asm); (case k5 => k_asm); (case k6 => k_is); (case k7 => k_is); (case k8 => ktr_room); (case k9 => refine' binds_as ?kb1 ?kb2; (case kb1 => first | exact BindsTo.of_eq rfl | exact binds_K (by k_in) rfl (by k_is) rfl rfl rfl); (case kb2 => (conv => arg 1; whnf); (repeat (apply same_cons; (focus ((conv => arg 1; arg 1; whnf); (try dsimp only); exact same_rfl)); (focus ((conv => arg 1; arg 1; whnf); (try dsimp only); exact same_rfl)); (conv => arg 1; whnf))); exact same_nil)); (case c5 => decide); (case kB => exact locs rfl); (case c2 => exact rfl); (case c3 => exact rfl); (case c4 => exact rfl); k_whole; intro g' L' h' FG' F' N' B' X' T'; (try dsimp only); (try k_lift B'); (try k_fold))))
  refine wpC_execs ?_
  refine wpC_any ?_
  repeat' ((fail_if_success (with_reducible show wpC _ _ _ _ _ _)); (first | (k_unfold; (try dsimp only)) | (k_end; wrow_close) | walk1 | (dsimp only; walk1) | (leave1; (try dsimp only)) | fail "no step"))
  refine wpC_execs ?_
  refine wpC_any ?_
  repeat' ((fail_if_success (with_reducible show wpC _ _ _ _ _ _)); (first | (k_unfold; (try dsimp only)) | (k_end; wrow_close) | walk1 | (dsimp only; walk1) | (leave1; (try dsimp only)) | fail "no step"))
  rcases hc with ⟨hb0, hz⟩ | ⟨hb, hb0, hz⟩ | ⟨hz⟩ | ⟨hb0, hz, hz'⟩
  all_goals (refine wpC_any ?_)
  all_goals k_steps
  all_goals (try (with_reducible refine wpC_any ?_))
  all_goals k_steps
  all_goals (try (with_reducible refine wpC_any ?_))
  all_goals k_steps
  all_goals exact hret _ _ _ (Back.of_turn (by assumption) (by assumption))
theorem tk_size (B : Below A₀ base outer h₀) (F : Fr h₀ L s.heap m) (X : (hd.heap_39 w.params).In h₀) (T : Top hd.view_39 Lz mean mg mb h₀) (XB : (hd.heap_39 w.params).In base) (TB : Top hd.view_39 Lz mean mg mb base) (D : KtsDicts (fsOf outer) h₀) (hk : cs.kind = .function) (hdp : dp + 20 < recursionLimit) (hun : un + 150 < cLine)
    {b : Array UInt8} {tb : Tok} (hb0 : (((b.toList.getD 0 0).toNat : Nat) : Int) = 7) (hz : (b.size : Int) = 9) (hret : RetT s (L :: fsOf outer) Q fun t => .str (Str.ofString "refused") t) :
    wpC (model Challenge.pw_ez0013_01 w) (ktrTop dp un gd cn cs L a ccd cl outer) (call (.ref 727) [.bytes b tb]) Q E s :=
  tk_all B F X T XB TB D hk hdp hun (.size hb0 hz) (by omega) hret
theorem tk_canon (B : Below A₀ base outer h₀) (F : Fr h₀ L s.heap m) (X : (hd.heap_39 w.params).In h₀) (T : Top hd.view_39 Lz mean mg mb h₀) (XB : (hd.heap_39 w.params).In base) (TB : Top hd.view_39 Lz mean mg mb base) (D : KtsDicts (fsOf outer) h₀) (hk : cs.kind = .function) (hdp : dp + 20 < recursionLimit) (hun : un + 150 < cLine)
    {b : Array UInt8} {tb : Tok} (hb : ∃ r, b.toList = 253 :: ((lowI 8 2).toList ++ r)) (hb0 : (((b.toList.getD 0 0).toNat : Nat) : Int) = 253) (hz : (b.size : Int) = 11) (hret : RetT s (L :: fsOf outer) Q fun t => .str (Str.ofString "refused") t) :
    wpC (model Challenge.pw_ez0013_01 w) (ktrTop dp un gd cn cs L a ccd cl outer) (call (.ref 727) [.bytes b tb]) Q E s :=
  tk_all B F X T XB TB D hk hdp hun (.canon hb hb0 hz) (by omega) hret
theorem tk_empty (B : Below A₀ base outer h₀) (F : Fr h₀ L s.heap m) (X : (hd.heap_39 w.params).In h₀) (T : Top hd.view_39 Lz mean mg mb h₀) (XB : (hd.heap_39 w.params).In base) (TB : Top hd.view_39 Lz mean mg mb base) (D : KtsDicts (fsOf outer) h₀) (hk : cs.kind = .function) (hdp : dp + 20 < recursionLimit) (hun : un + 150 < cLine)
    {b : Array UInt8} {tb : Tok} (hz : (b.size : Int) = 0) (hret : RetT s (L :: fsOf outer) Q fun t => .str (Str.ofString "refused") t) :
    wpC (model Challenge.pw_ez0013_01 w) (ktrTop dp un gd cn cs L a ccd cl outer) (call (.ref 727) [.bytes b tb]) Q E s :=
  tk_all B F X T XB TB D hk hdp hun (.empty hz) (by omega) hret
theorem tk_short (B : Below A₀ base outer h₀) (F : Fr h₀ L s.heap m) (X : (hd.heap_39 w.params).In h₀) (T : Top hd.view_39 Lz mean mg mb h₀) (XB : (hd.heap_39 w.params).In base) (TB : Top hd.view_39 Lz mean mg mb base) (D : KtsDicts (fsOf outer) h₀) (hk : cs.kind = .function) (hdp : dp + 20 < recursionLimit) (hun : un + 150 < cLine)
    {b : Array UInt8} {tb : Tok} (hb0 : (((b.toList.getD 0 0).toNat : Nat) : Int) = 8) (hz : 1 ≤ (b.size : Int)) (hz' : (b.size : Int) ≤ 8) (hret : RetT s (L :: fsOf outer) Q fun t => .str (Str.ofString "refused") t) :
    wpC (model Challenge.pw_ez0013_01 w) (ktrTop dp un gd cn cs L a ccd cl outer) (call (.ref 727) [.bytes b tb]) Q E s :=
  tk_all B F X T XB TB D hk hdp hun (.short hb0 hz hz') (by omega) hret
end
end Mine

end
section

open PySem PySem.W PySem.Calls PyProof.Rows
namespace Mine
set_option maxRecDepth 100000
local macro_rules | `(tactic| cell_enter) => `(tactic| (refine' code_own ?k1 ?k2 ?k3 ?k5 ?kA ?kF ?kK ?k6 ?k7 ?k8 ?k9 ?kB ?_ ?c2 ?c3 ?c4 ?c5; (case kA => exact rfl); (case kF => exact rfl); (case kK => first | exact rfl | assumption); (case k1 => k_asm); (case k2 => k_asm); (case k3 => k_asm); (case k5 => k_asm); (case k6 => k_is); (case k7 => k_is); (case k8 => ktr_room); (case k9 => first | exact BindsTo.of_eq rfl | exact binds_K (by k_in) rfl (by k_is) rfl rfl rfl); (case c5 => decide); (case kB => exact locs rfl); (case c2 => exact rfl); (case c3 => exact rfl); (case c4 => exact rfl); k_whole; intro L' h' F' N' B' X' T'; (try dsimp only); (try k_lift B'); (try k_fold)))
local macro_rules | `(tactic| walk_at "call type:bytes") => `(tactic| ((with_reducible show wpAny _ _ (call (Value.type "bytes") [Value.bytes _ _]) _ _ _); (refine bytes_of_bytes ?_)))
local macro_rules | `(tactic| k_room) => `(tactic| ktr_room)
local macro_rules | `(tactic| walk_at "call builtin:len") => `(tactic| ((with_reducible show wpAny _ _ (call (Value.builtin "len") [Value.bytes _ _]) _ _ _); (refine len_bytes_at (by assumption) (by omega) ?_); intro _ _))
local macro_rules | `(tactic| walk_at "truthy bytes") => `(tactic| ((with_reducible show wpAny _ _ (truthy (Value.bytes _ _)) _ _ _); (refine truthy_bytes_at (by assumption) (by omega) ?_); intro _))
local macro_rules | `(tactic| walk_at "subscriptTail") => `(tactic| ((with_reducible show wpAny _ _ (subscriptTail _ (Expr.Slice _ _ none _) (Value.bytes _ _) (Value.ref _)) _ _ _); (with_reducible rename Fr _ _ _ _ => F'); (with_reducible rename News _ _ _ _ => N'); (refine slice_B (s := ⟨_, _, _, _, _⟩) F' N' (by constructor) (by constructor) (by omega) ?_); intro h' t' k' c' F' N' hS' hZ'; (dsimp only [Option.elim] at hS'); (dsimp only [Option.elim] at hZ'); (try simp only [List.drop_zero, Nat.sub_zero] at hS'); (try simp only [Nat.sub_zero, clipAt_nat] at hZ'); (try k_sweep)))
local macro_rules | `(tactic| walk_at "binaryOp Mult bytes int") => `(tactic| ((with_reducible show wpAny _ _ (binaryOp Operator.Mult (Value.bytes _ _) (Value.int _ _)) _ _ _); (refine mul_B (by omega) ?n0 ?n1 ?_; (case n0 => first | omega | (simp only [Int.fdiv_eq_ediv_of_nonneg _ (by decide : (0 : Int) ≤ 8)]; omega)); (case n1 => first | omega | (simp only [Int.fdiv_eq_ediv_of_nonneg _ (by decide : (0 : Int) ≤ 8)]; omega))); intro t' k' c' hS' hZ'; (try simp only [Int.fdiv_eq_ediv_of_nonneg _ (by decide : (0 : Int) ≤ 8)] at hZ')))
local macro_rules | `(tactic| walk_at "binaryOp Add bytes bytes") => `(tactic| ((with_reducible show wpAny _ _ (binaryOp Operator.Add (Value.bytes _ _) (Value.bytes _ _)) _ _ _); (refine add_B (by omega) ?_); intro t' k' c' hS' hZ'))
local macro_rules | `(tactic| walk_at "call builtin:len") => `(tactic| ((with_reducible show wpAny _ _ (call (Value.builtin "len") [Value.bytes _ _]) _ _ _); first | ((refine len_bytes_at (by assumption) (by omega) ?_); intro _ _) | ((refine len_B (by omega) ?_); intro _ _)))
local macro_rules | `(tactic| walk_at "call ref") => `(tactic| ((with_reducible show wpAny _ _ (call (Value.ref _) [Value.bytes _ _, Value.str _ _]) _ _ _); k_dflt (refine call_fb_big (by k_asm) (by k_mem) (by omega) ?_); intro _ _))
local macro_rules | `(tactic| walk_at "call type:type") => `(tactic| ((with_reducible show wpAny _ _ (call (Value.type "type") [Value.bytes _ _]) _ _ _); refine call_type_of (Tx := "bytes") (PySem.W.typeIs_bytes _ _ _) (by decide +kernel) ?_))
local macro_rules | `(tactic| walk_at "exec Raise some none") => `(tactic| ((with_reducible show wpAny _ _ (exec (Stmt.Raise (some (Expr.Call (Expr.Name _ _) (_ :: _) [] _)) none _) _) _ _ _); k_dflt (first
  | (refine' Raise_own2 ?F ?g ?O PySem.F.excBase_Exception ?n PySem.F.excBase_ValueError ?h ?_ ?a ?b ?c ?d ?e; (case F => k_asm); (case g => exact TopRead.g (by k_asm)); (case O => exact own_of_in (by k_asm) (by k_asm) (by k_is) (by k_exc)); (case n => rfl); (case h => first | rfl | assumption); (case a => rfl); (case b => rfl); (case c => rfl); (case d => rfl); (case e => decide); k_whole)
  | (refine' Raise_own2 ?F ?g ?O PySem.F.excBase_Exception ?n PySem.F.excBase_TypeError ?h ?_ ?a ?b ?c ?d ?e; (case F => k_asm); (case g => exact TopRead.g (by k_asm)); (case O => exact own_of_in (by k_asm) (by k_asm) (by k_is) (by k_exc)); (case n => rfl); (case h => first | rfl | assumption); (case a => rfl); (case b => rfl); (case c => rfl); (case d => rfl); (case e => decide); k_whole))))
local macro_rules | `(tactic| walk_at "getMethod type:int") => `(tactic| (with_reducible (refine' fast_fb ?kfbF ?kfbN ?kfbX ?_; (case kfbF => k_asm); (case kfbN => k_asm); (case kfbX => k_asm); k_whole); intro x' h' F' N' l1; (try k_lt l1); (try k_sweep)))
local macro_rules | `(tactic| walk_at "eval Name") => `(tactic| (first
  | ((name_kind "local"); (with_reducible refine' fastL ?xF ?xl ?xv ?xk ?xd ?_); (case xl => decide +kernel); (case xF => k_asm); (case xk => first | exact rfl | assumption); (case xd => kernel_rfl); (case xv => k_dflt (exact rfl)); k_whole)
  | ((name_kind "globalImplicit"); (with_reducible refine' fastG ?xF ?xl ?xX ?xT ?xe ?xk ?xd ?_); (case xl => decide +kernel); (case xF => k_asm); (case xX => k_asm); (case xT => k_asm); (case xe => k_dflt k_is); (case xk => first | exact rfl | assumption); (case xd => kernel_rfl); k_whole)
  | ((name_kind "globalImplicit"); name_is_builtin; (with_reducible refine' fastB ?xF ?xl ?xX ?xT ?xe ?xv ?xn ?xk ?xd ?_); (case xl => kernel_rfl); (case xF => k_asm); (case xX => k_asm); (case xT => k_asm); (case xe => k_dflt k_is); (case xv => k_dflt (first | boot_fast | boot_by_name)); (case xn => decide); (case xk => first | exact rfl | assumption); (case xd => kernel_rfl); k_whole)
  | ((name_kind "local"); (with_reducible refine' fastXL ?xF ?xl ?xv ?xk ?xd ?_); (case xl => decide +kernel); (case xF => k_asm); (case xk => first | exact rfl | assumption); (case xd => kernel_rfl); (case xv => k_dflt (exact rfl)); k_whole)
  | ((name_kind "cell"); (with_reducible refine' fastXC ?xN ?xl ?xc ?xm ?xo ?xk ?xd ?_); (case xl => decide +kernel); (case xN => k_asm); (case xc => k_dflt (exact rfl)); (case xm => k_dflt k_mem); (case xo => k_dflt k_asm); (case xk => first | exact rfl | assumption); (case xd => kernel_rfl); k_whole)
  | ((name_kind "globalImplicit"); (with_reducible refine' fastXG ?xF ?xl ?xX ?xT ?xe ?xk ?xd ?_); (case xl => decide +kernel); (case xF => k_asm); (case xX => k_asm); (case xT => k_asm); (case xe => k_dflt k_is); (case xk => first | exact rfl | assumption); (case xd => kernel_rfl); k_whole)
  | ((name_kind "globalImplicit"); name_is_builtin; (with_reducible refine' fastXB ?xF ?xl ?xX ?xT ?xe ?xv ?xn ?xk ?xd ?_); (case xl => kernel_rfl); (case xF => k_asm); (case xX => k_asm); (case xT => k_asm); (case xe => k_dflt k_is); (case xv => k_dflt (first | boot_fast | boot_by_name)); (case xn => decide); (case xk => first | exact rfl | assumption); (case xd => kernel_rfl); k_whole)
  | ((name_kind "local"); (with_reducible refine' fastYL ?xF ?xl ?xv ?xk ?xd ?_); (case xl => decide +kernel); (case xF => k_asm); (case xk => first | exact rfl | assumption); (case xd => kernel_rfl); (case xv => k_dflt (exact rfl)); k_whole)
  | ((name_kind "cell"); (with_reducible refine' fastYC ?xN ?xl ?xc ?xm ?xo ?xk ?xd ?_); (case xl => decide +kernel); (case xN => k_asm); (case xc => k_dflt (exact rfl)); (case xm => k_dflt k_mem); (case xo => k_dflt k_asm); (case xk => first | exact rfl | assumption); (case xd => kernel_rfl); k_whole)
  | ((name_kind "globalImplicit"); (with_reducible refine' fastYG ?xF ?xl ?xX ?xT ?xe ?xk ?xd ?_); (case xl => decide +kernel); (case xF => k_asm); (case xX => k_asm); (case xT => k_asm); (case xe => k_dflt k_is); (case xk => first | exact rfl | assumption); (case xd => kernel_rfl); k_whole)
  | ((name_kind "globalImplicit"); name_is_builtin; (with_reducible refine' fastYB ?xF ?xl ?xX ?xT ?xe ?xv ?xn ?xk ?xd ?_); (case xl => kernel_rfl); (case xF => k_asm); (case xX => k_asm); (case xT => k_asm); (case xe => k_dflt k_is); (case xv => k_dflt (first | boot_fast | boot_by_name)); (case xn => decide); (case xk => first | exact rfl | assumption); (case xd => kernel_rfl); k_whole)
  | ((name_kind "local"); (with_reducible refine' fastCL ?xN ?xl ?xm ?xo ?xv ?xk ?xd ?_); (case xl => decide +kernel); (case xN => k_asm); (case xm => k_dflt k_mem); (case xo => assumption); (case xv => assumption); (case xk => exact rfl); (case xd => kernel_rfl); k_whole)
  | ((name_kind "free"); (with_reducible refine' fastCF ?xN ?xl ?xe ?xs ?xc ?xm ?xo ?xk ?xd ?_); (case xl => decide +kernel); (case xe => kernel_rfl); (case xs => kernel_rfl); (case xN => k_asm); (case xc => k_dflt (exact rfl)); (case xm => k_dflt k_mem); (case xo => k_dflt k_asm); (case xk => exact rfl); (case xd => kernel_rfl); k_whole)
  | ((name_kind "free"); (with_reducible refine' fastCY ?xN ?xl ?xe ?xs ?xc ?xm ?xo ?xk ?xd ?_); (case xl => decide +kernel); (case xe => kernel_rfl); (case xs => kernel_rfl); (case xN => k_asm); (case xc => k_dflt (exact rfl)); (case xm => k_dflt k_mem); (case xo => k_dflt k_asm); (case xk => exact rfl); (case xd => kernel_rfl); k_whole)
  | ((name_kind "globalImplicit"); (with_reducible refine' fastCG ?xF ?xl ?xX ?xT ?xe ?xg ?xk ?xd ?_); (case xl => decide +kernel); (case xF => k_asm); (case xX => k_asm); (case xT => k_asm); (case xe => k_dflt k_is); (case xg => k_dflt (exact rfl)); (case xk => exact rfl); (case xd => kernel_rfl); k_whole)
  | ((name_kind "globalImplicit"); name_is_builtin; (with_reducible refine' fastCB ?xF ?xl ?xX ?xT ?xe ?xv ?xn ?xg ?xb ?xk ?xd ?_); (case xl => kernel_rfl); (case xF => k_asm); (case xX => k_asm); (case xT => k_asm); (case xe => k_dflt k_is); (case xv => k_dflt (first | boot_fast | boot_by_name)); (case xn => decide); (case xg => k_dflt (exact rfl)); (case xb => k_dflt (exact rfl)); (case xk => exact rfl); (case xd => kernel_rfl); k_whole)))
local macro_rules | `(tactic| walk_at "call ref") => `(tactic| ((with_reducible show wpAny _ _ (call (Value.ref 66) _) _ _ _); k_dflt (first
  | (refine' bfo1 ?B ?F ?X ?T ?hk ?hd ?hu ?_)
  | (refine' bfo2 ?B ?F ?X ?T ?hk ?hd ?hu ?hz ?_; (case hz => assumption))); (case B => k_asm); (case F => k_asm); (case X => k_asm); (case T => k_asm); (case hk => first | exact rfl | assumption); (case hd => ktr_room); (case hu => ktr_units); (intro h9 t9 k9 hk9); (have F9 := Fr.keeps (by k_asm) hk9); (have N9 := News.grown (by k_asm) hk9); clear hk9; (try k_sweep)))
local macro_rules | `(tactic| walk_at "binaryOp FloorDiv int int") => `(tactic| ((with_reducible show wpAny _ _ (binaryOp Operator.FloorDiv (Value.int _ _) (Value.int (256 ^ _) _)) _ _ _); (refine floordiv_int (p256_ne _) ?_ (Or.inl (np256 (by omega))))))
local macro_rules | `(tactic| walk_at "callWith builtin:int.to_bytes") => `(tactic| ((with_reducible show wpAny _ _ (callWith _ (Value.builtin _) _ _ (backToKw _ _)) _ _ _); k_dflt (refine callWith_little (P := fun _ => True) keeper_builtin ?_)))
local macro_rules | `(tactic| walk_at "callWith ref") => `(tactic| ((with_reducible show wpAny _ _ (callWith _ (Value.ref _) _ _ (backToKw _ _)) _ _ _); k_dflt (refine callWith_little (P := KFB.StandsAt _) keeper_bound ?_)))
local macro_rules | `(tactic| walk_at "call builtin:int.to_bytes") => `(tactic| ((with_reducible show wpAny _ _ (call (Value.builtin _) _ (kwLittle _)) _ _ _); k_dflt (first | (refine tb_low (k := 2) ?h0 ?h1 (by decide) ?_; (case h0 => omega); (case h1 => omega)) | (refine tb_low (k := 4) ?h0 ?h1 (by decide) ?_; (case h0 => omega); (case h1 => omega)) | (refine tb_low (k := 8) ?h0 ?h1 (by decide) ?_; (case h0 => omega); (case h1 => omega))); intro t8 k8))
local macro_rules | `(tactic| walk_at "call ref") => `(tactic| ((with_reducible show wpAny _ _ (call (Value.ref _) _ (kwLittle _)) _ _ _); k_dflt (refine call_fb_little (by k_asm) (by k_mem) (by omega) ?_); intro _ _))
local macro_rules | `(tactic| walk_at "call builtin:len") => `(tactic| ((with_reducible show wpAny _ _ (call (Value.builtin "len") [Value.ref _]) _ _ _); k_dflt (refine len_baK (by k_asm) (by k_mem) (by omega) ?_); intro _ _))
local macro_rules | `(tactic| walk_at "call type:bytes") => `(tactic| ((with_reducible show wpAny _ _ (call (Value.type "bytes") [Value.ref _]) _ _ _); k_dflt (refine bytes_baK (by k_asm) (by k_mem) (by omega) ?_); intro _ _))
local macro_rules | `(tactic| walk_at "subscriptTail") => `(tactic| ((with_reducible show wpAny _ _ (subscriptTail _ (Expr.Slice _ _ none _) (Value.ref _) (Value.ref _)) _ _ _); (with_reducible rename Fr _ _ _ _ => F'); (with_reducible rename News _ _ _ _ => N'); k_dflt (refine cut_K (s := ⟨_, _, _, _, _⟩) F' N' (by k_mem) (by omega) (by omega) (by omega) (by omega) ?_); intro r' h' c' F' N' l1 hS' hZ'; (try k_lt l1); (try k_sweep)))
local macro_rules | `(tactic| walk_at "subscriptTail") => `(tactic| ((with_reducible show wpAny _ _ (subscriptTail _ (Expr.Constant (Const.int 0) _ _) (Value.bytes _ _) (Value.int _ _)) _ _ _); k_dflt (refine item0_at (by assumption) (by omega) (by omega) (by omega) (by omega) (by assumption) ?_); intro _))
local macro_rules | `(tactic| walk_at "call ref") => `(tactic| ((with_reducible show wpAny _ _ (call (Value.ref _) _ (kwLittle _)) _ _ _); k_dflt (first | refine fbl_at (kk := 2) (by k_asm) (by k_mem) (by assumption) (by omega) (by omega) (by assumption) (by omega) (by omega) (by omega) ?_ | refine fbl_at (kk := 4) (by k_asm) (by k_mem) (by assumption) (by omega) (by omega) (by assumption) (by omega) (by omega) (by omega) ?_ | refine fbl_at (kk := 8) (by k_asm) (by k_mem) (by assumption) (by omega) (by omega) (by assumption) (by omega) (by omega) (by omega) ?_); intro _ _))
local macro_rules | `(tactic| walk_at "truthy bytes") => `(tactic| ((with_reducible show wpAny _ _ (truthy (Value.bytes #[] _)) _ _ _); (refine empty_truthy ?_); intro _))
local macro_rules | `(tactic| k_enter) => `(tactic| ((fail_if_success k_inElt); (refine' code_def ?k1 ?k2 ?k3 ?k4 ?k5 ?kA ?kF ?kK ?k6 ?k7 ?k8 ?k9 ?kB ?_ ?c2 ?c3 ?c4 ?c5; (case kA => exact rfl); (case kF => exact rfl); (case kK => first | exact rfl | assumption); (case k1 => k_asm); (case k2 => k_asm); (case k3 => k_asm); (case k4 => k_asm); (case k5 => k_asm); (case k6 => k_is); (case k7 => k_is); (case k8 => k_room); (case k9 => refine' binds_as ?kb1 ?kb2; (case kb1 => first | exact BindsTo.of_eq rfl | exact binds_K (by k_in) rfl (by k_is) rfl rfl rfl); (case kb2 => (conv => arg 1; whnf); (repeat (apply same_cons; (focus ((conv => arg 1; arg 1; whnf); (try dsimp only); exact same_rfl)); (focus ((conv => arg 1; arg 1; whnf); (try dsimp only); exact same_rfl)); (conv => arg 1; whnf))); exact same_nil)); (case c5 => decide); (case kB => exact locs rfl); (case c2 => exact rfl); (case c3 => exact rfl); (case c4 => exact rfl); k_whole; intro g' L' h' FG' F' N' B' X' T'; (try dsimp only); (try k_lift B'); (try k_fold))))
local macro_rules | `(tactic| walk_at "And") => `(tactic| ((with_reducible show PySem.Str.length (_ ++ _) ≤ sizeLine ∧ wpAny _ _ (joinParts _ _) _ _ _); k_dflt (refine' and_jp _ ?jpa ?jpb ?jpk ?_; (case jpa => first | (with_reducible assumption) | exact Nat.le_refl _); (case jpb => first | (with_reducible exact num300 (by omega) (by omega)) | (with_reducible assumption) | exact Nat.le_of_ble_eq_true rfl); (case jpk => exact Nat.le_of_ble_eq_true rfl)); (intro _ _)))
local macro_rules | `(tactic| walk_at "joinParts") => `(tactic| (k_dflt (first | refine' jp_nilE _ ?jpm ?jpn ?_ | refine' jp_nil _ ?jpm ?jpn ?_); (case jpm => (with_reducible assumption)); (case jpn => exact Nat.le_of_ble_eq_true rfl)))
local macro_rules | `(tactic| walk_at "ite") => `(tactic| ((with_reducible show if (@BEq.beq Int _ _ _) = true then _ else _); k_dflt (first | refine ite_neI (by omega) ?_ | refine ite_eqI (by omega) ?_)))
local macro_rules | `(tactic| walk_at "call ref") => `(tactic| ((with_reducible show wpAny _ _ (call (Value.ref 734) [Value.int _ _]) _ _ _); k_dflt (first
  | (refine' wr0 ?B ?F ?X ?T ?XB ?TB ?D ?hk ?hd ?hu ?h0 ?h1 ?_; (((case B => k_asm); (case F => k_asm); (case X => k_asm); (case T => k_asm); (case XB => k_asm); (case TB => k_asm); (case D => k_asm); (case hk => first | exact rfl | assumption); (case hd => ktr_room); (case hu => ktr_units); (case h0 => omega); (case h1 => omega))))
  | (refine' wr1 ?B ?F ?X ?T ?XB ?TB ?D ?hk ?hd ?hu ?h0 ?h1 ?_; (((case B => k_asm); (case F => k_asm); (case X => k_asm); (case T => k_asm); (case XB => k_asm); (case TB => k_asm); (case D => k_asm); (case hk => first | exact rfl | assumption); (case hd => ktr_room); (case hu => ktr_units); (case h0 => omega); (case h1 => omega))))
  | (refine' wr2 ?B ?F ?X ?T ?XB ?TB ?D ?hk ?hd ?hu ?h0 ?h1 ?_; (((case B => k_asm); (case F => k_asm); (case X => k_asm); (case T => k_asm); (case XB => k_asm); (case TB => k_asm); (case D => k_asm); (case hk => first | exact rfl | assumption); (case hd => ktr_room); (case hu => ktr_units); (case h0 => omega); (case h1 => omega))))
  | (refine' wr3 ?B ?F ?X ?T ?XB ?TB ?D ?hk ?hd ?hu ?h0 ?h1 ?_; (((case B => k_asm); (case F => k_asm); (case X => k_asm); (case T => k_asm); (case XB => k_asm); (case TB => k_asm); (case D => k_asm); (case hk => first | exact rfl | assumption); (case hd => ktr_room); (case hu => ktr_units); (case h0 => omega); (case h1 => omega))))); ((intro h9 t9 k9 hb9; (try dsimp only); (obtain ⟨g9, T9, F9, N9, B9, X9, P9, D9⟩ := turn_after (k := hb9) (by k_asm) (by k_asm) (by k_asm) (by k_asm) (by k_asm) (by k_asm)); clear hb9; (first | (replace T9 := KtsTurn.trans (by with_reducible assumption) T9) | skip); (try k_lift B9); (try k_sweep)))))
local macro_rules | `(tactic| walk_at "call ref") => `(tactic| ((with_reducible show wpAny _ _ (call (Value.ref 713) _) _ _ _); k_dflt (first | (refine' len0 ?B ?F ?X ?T ?hk ?hd ?hu ?h0 ?h1 ?_; (case B => k_asm); (case F => k_asm); (case X => k_asm); (case T => k_asm); (case hk => first | exact rfl | assumption); (case hd => ktr_room); (case hu => ktr_units); (case h0 => omega); (case h1 => omega)) | (refine' len1 ?B ?F ?X ?T ?hk ?hd ?hu ?h0 ?_; (case B => k_asm); (case F => k_asm); (case X => k_asm); (case T => k_asm); (case hk => first | exact rfl | assumption); (case hd => ktr_room); (case hu => ktr_units); (case h0 => omega)) | (refine' len2 ?B ?F ?X ?T ?hk ?hd ?hu ?h0 ?_; (case B => k_asm); (case F => k_asm); (case X => k_asm); (case T => k_asm); (case hk => first | exact rfl | assumption); (case hd => ktr_room); (case hu => ktr_units); (case h0 => omega)) | (refine' len3 ?B ?F ?X ?T ?hk ?hd ?hu ?h0 ?_; (case B => k_asm); (case F => k_asm); (case X => k_asm); (case T => k_asm); (case hk => first | exact rfl | assumption); (case hd => ktr_room); (case hu => ktr_units); (case h0 => omega))); (intro h9 t9 k9 hk9); (try dsimp only); (have F9 := Fr.keeps (by k_asm) hk9); (have N9 := News.grown (by k_asm) hk9); clear hk9; (try k_sweep)))
local macro_rules | `(tactic| walk_at "eval ListComp") => `(tactic| (k_dflt (refine LCt.ListComp_T (F₀ := by k_asm) (by with_unfolding_all rfl) (by decide) (by rfl) (by decide) (by rfl) ?_); k_dflt lct_toSrc))
local macro_rules | `(tactic| walk_at "CompSrcT") => `(tactic| (k_dflt (refine LCt.CompSrcT.range (n := 4) (by rfl) (by k_asm) (by k_asm) (by assumption) (by first | decide | rfl) (by first | rfl | decide) (by first | size_fits | exact Nat.le_of_ble_eq_true rfl) ?_; intro g')))
local macro_rules | `(tactic| walk_at "ite") => `(tactic| ((with_reducible show if (decide (_ < List.getD _ _ _)) = true then _ else _); k_dflt (first | refine ite_decT (by first | (show _ < (253 : Int); omega) | (show _ < (65536 : Int); omega) | (show _ < (4294967296 : Int); omega) | (show _ < (18446744073709551616 : Int); omega)) ?_ | refine ite_decF (by first | (show ¬ (_ < (253 : Int)); omega) | (show ¬ (_ < (65536 : Int)); omega) | (show ¬ (_ < (4294967296 : Int)); omega) | (show ¬ (_ < (18446744073709551616 : Int)); omega)) ?_)))
local macro_rules | `(tactic| walk_at "ite") => `(tactic| ((with_reducible show if (decide _) = true then _ else _); (fail_if_success (with_reducible show if (decide (_ < List.getD _ _ _)) = true then _ else _)); (fail_if_success (with_reducible show if (decide (_ < _ ^ _)) = true then _ else _)); k_dflt (first | refine ite_decT (by omega) ?_ | refine ite_decF (by omega) ?_)))
local macro_rules | `(tactic| walk_at "ite") => `(tactic| ((with_reducible show if (@bne (List UInt8) _ _ _) = true then _ else _); k_dflt (refine ite_bneLL (by first | exact rfl | assumption) ?_)))
local macro_rules | `(tactic| walk_at "truthy bytes") => `(tactic| ((with_reducible show wpAny _ _ (truthy (Value.bytes (lenA _ _) _)) _ _ _); (refine truthy_len ?_); intro _))
local macro_rules | `(tactic| walk_at "ite") => `(tactic| ((with_reducible show if (@bne Int _ _ _) = true then _ else _); k_dflt (first | refine ite_bneII (by omega) ?_ | refine ite_bneIn (by omega) ?_)))
local macro_rules | `(tactic| walk_at "subscriptTail") => `(tactic| ((with_reducible show wpAny _ _ (subscriptTail _ (Expr.Slice none _ none _) (Value.bytes (lenA _ _) _) (Value.ref _)) _ _ _); (with_reducible rename Fr _ _ _ _ => F'); (with_reducible rename News _ _ _ _ => N'); k_dflt (refine slice_last (s := ⟨_, _, _, _, _⟩) F' N' ?_); intro h' t' k' c' F' N' hS' hZ'; (try k_sweep)))
local macro_rules | `(tactic| walk_at "ite") => `(tactic| ((with_reducible show if (decide (_ < _ ^ _)) = true then _ else _); k_dflt (first | refine ite_decT (by first | (show _ < (256 : Int); omega) | (show _ < (65536 : Int); omega) | (show _ < (4294967296 : Int); omega) | (show _ < (18446744073709551616 : Int); omega)) ?_ | refine ite_decF (by first | (show ¬ (_ < (256 : Int)); omega) | (show ¬ (_ < (65536 : Int)); omega) | (show ¬ (_ < (4294967296 : Int)); omega) | (show ¬ (_ < (18446744073709551616 : Int)); omega)) ?_)))
local macro_rules | `(tactic| walk_at "binaryOp Pow int int") => `(tactic| ((with_reducible show wpAny _ _ (binaryOp Operator.Pow (Value.int _ _) (Value.int _ _)) _ _ _); (with_reducible refine pow_int_small ?kp1 ?kp2 ?kp3 ?_); (case kp1 => k_dflt (first | decide | omega)); (case kp2 => k_dflt (first | decide | omega)); (case kp3 => decide)))
local macro_rules | `(tactic| walk_at "ite") => `(tactic| (k_closed; with_reducible (first | (refine' iteBT ?hIte ?_; (case hIte => decide +kernel)) | (refine' iteBF ?hIte ?_; (case hIte => decide +kernel)))))
local macro_rules | `(tactic| walk_at "ite") => `(tactic| with_reducible (first | refine iteTT ?_ | refine iteFT ?_ | refine iteNeS ?_ | refine iteEqS ?_))
section
variable {w : World} {mean : ExcName → Option Value} {mg mb : Str → Option Value} {dp un : Nat} {gd : Option (List Code)} {cn : Str} {cs : Scope} {a : Addr} {ccd : Value} {cl : List (Str × Addr)} {outer : List Env} {A₀ : Around} {base h₀ : Heap} {L : Addr} {m : Str → Option Value} {s : Shared} {Q E : Value → Shared → Prop}
set_option maxHeartbeats 1500000 in
theorem ll0 (B : Below A₀ base outer h₀) (F : Fr h₀ L s.heap m) (X : (hd.heap_39 w.params).In h₀) (T : Top hd.view_39 Lz mean mg mb h₀) (XB : (hd.heap_39 w.params).In base) (TB : Top hd.view_39 Lz mean mg mb base) (D : KtsDicts (fsOf outer) h₀) (hk : cs.kind = .function) (hdp : dp + 24 < recursionLimit) (hun : un + 200 < cLine)
    {n : Int} {tn : Tok} (hn : 0 ≤ n) (hn' : n < 253) (hret : RetT s (L :: fsOf outer) Q fun t => .bool true) :
    wpC (model Challenge.pw_ez0013_01 w) (ktrTop dp un gd cn cs L a ccd cl outer) (call (.ref 746) [.int n tn]) Q E s := by
  refine fill (Q := PySem.Challenge.rw_ez0013_01 = PySem.Challenge.rw_ez0013_01 ∧ hd.heap_39 = hd.heap_39) ?_
  k_fill
  refine ⟨⟨rfl, rfl⟩, ?_⟩
  have D1 := own_dictsX (cn := cn) (cs := cs) (a := a) (ccd := ccd) (cl := cl) F D
  refine wpC_call ?_
  k_dflt (((refine' code_ownXC (binds := [(Str.ofString "number", Value.int n tn)]) ?k1 ?k2 ?k3 ?k5 ?kA ?kF ?kK ?k6 ?k7 ?k8 ?k9 ?kB ?kD ?_ ?c2 ?c3 ?c4; (case kA => exact rfl); (case kF => exact rfl); (case kK => first | exact rfl | assumption); (case k1 => k_asm); (case k2 => k_asm); (case k3 => k_asm); (case k5 => k_asm); (case k6 => k_is); (case k7 => k_is); (case k8 => ktr_room); (case k9 => first | exact BindsTo.of_eq rfl | exact binds_K (by k_in) rfl (by k_is) rfl rfl rfl); (case kB => exact rfl); (case kD => decide +kernel); (case c2 => exact rfl); (case c3 => exact rfl); (case c4 => exact rfl); k_whole; intro L' h' tk' cells' F' N' Y' B' X' T'; k_cells Y'; (try simp only [List.cons_append, List.nil_append] at N'); (try dsimp only); (try k_lift B'); (try k_fold))))
  refine wpC_execs ?_
  refine wpC_any ?_
  repeat' ((fail_if_success (with_reducible show wpC _ _ _ _ _ _)); (first | (k_unfold; (try dsimp only)) | (k_end; wrow_close) | walk1 | (dsimp only; walk1) | (leave1; (try dsimp only)) | fail "no step"))
  refine wpC_execs ?_
  refine wpC_any ?_
  repeat' ((fail_if_success (with_reducible show wpC _ _ _ _ _ _)); (first | (k_unfold; (try dsimp only)) | (k_end; wrow_close) | walk1 | (dsimp only; walk1) | (leave1; (try dsimp only)) | fail "no step"))
  refine wpC_execs ?_
  refine wpC_any ?_
  repeat' ((fail_if_success (with_reducible show wpC _ _ _ _ _ _)); (first | (k_unfold; (try dsimp only)) | (k_end; wrow_close) | walk1 | (dsimp only; walk1) | (leave1; (try dsimp only)) | fail "no step"))
  refine wpC_execs ?_
  refine wpC_For ?_
  repeat' ((fail_if_success (with_reducible show wpC _ _ _ _ _ _)); (first | (k_unfold; (try dsimp only)) | (k_end; wrow_close) | walk1 | (dsimp only; walk1) | (leave1; (try dsimp only)) | fail "no step"))
  refine' iterC (c := L' + 1) (L := L') (k := 4) ?ir ?is ?ik ?iF ?iN ?ic ?_; (case ir => assumption); (case is => decide); (case ik => rfl); (case iF => k_asm); (case iN => k_asm); (case ic => k_mem)
  intro I9 h9 F9 N9 hI9; (try k_sweep)
  refine' forC_turn (c := L' + 1) (L := L') ?fl ?fx ?fp ?fF ?fN ?fI ?fc ?fh ?fk ?_; (case fl => exact rfl); (case fx => exact rfl); (case fp => exact rfl); (case fF => k_asm); (case fN => k_asm); (case fI => k_mem); (case fc => k_mem); (case fh => assumption); (case fk => decide)
  intro h9 t9 k9 F9 N9; (try k_sweep)
  refine wpC_execs ?_
  refine wpC_If ?_
  refine wpC_any ?_
  repeat' ((fail_if_success (with_reducible show wpC _ _ _ _ _ _)); (first | (k_unfold; (try dsimp only)) | (k_end; wrow_close) | walk1 | (dsimp only; walk1) | (leave1; (try dsimp only)) | fail "no step"))
  refine wpC_execs ?_
  refine wpC_any ?_
  repeat' ((fail_if_success (with_reducible show wpC _ _ _ _ _ _)); (first | (k_unfold; (try dsimp only)) | (k_end; wrow_close) | walk1 | (dsimp only; walk1) | (leave1; (try dsimp only)) | fail "no step"))
  refine wpC_execs ?_
  refine wpC_any ?_
  repeat' ((fail_if_success (with_reducible show wpC _ _ _ _ _ _)); (first | (k_unfold; (try dsimp only)) | (k_end; wrow_close) | walk1 | (dsimp only; walk1) | (leave1; (try dsimp only)) | fail "no step"))
  refine wpC_execs ?_
  refine wpC_If ?_
  refine wpC_isTrue_and ?_
  refine wpC_any ?_
  repeat' ((fail_if_success (with_reducible show wpC _ _ _ _ _ _)); (first | (k_unfold; (try dsimp only)) | (k_end; wrow_close) | walk1 | (dsimp only; walk1) | (leave1; (try dsimp only)) | fail "no step"))
  refine wpC_isTrue_and ?_
  refine wpC_any ?_
  repeat' ((fail_if_success (with_reducible show wpC _ _ _ _ _ _)); (first | (k_unfold; (try dsimp only)) | (k_end; wrow_close) | walk1 | (dsimp only; walk1) | (leave1; (try dsimp only)) | fail "no step"))
  refine wpC_isTrue_and ?_
  refine wpC_isTrue_Compare ?_
  refine wpC_Call_Name ?_
  repeat' ((fail_if_success (with_reducible show wpC _ _ _ _ _ _)); (first | (k_unfold; (try dsimp only)) | (k_end; wrow_close) | walk1 | (dsimp only; walk1) | (leave1; (try dsimp only)) | fail "no step"))
  refine' wpC_callWith_K ?kX ?kI ?_; (case kX => k_asm); (case kI => k_is)
  repeat' ((fail_if_success (with_reducible show wpC _ _ _ _ _ _)); (first | (k_unfold; (try dsimp only)) | (k_end; wrow_close) | walk1 | (dsimp only; walk1) | (leave1; (try dsimp only)) | fail "no step"))
  refine' rq_ok0 ?B ?F ?X ?T ?XB ?TB ?D ?hk ?hd ?hu ?h0 ?h1 ?h2 ?_; (((case B => k_asm); (case F => k_asm); (case X => k_asm); (case T => k_asm); (case XB => k_asm); (case TB => k_asm); (case D => k_asm); (case hk => first | exact rfl | assumption); (case hd => ktr_room); (case hu => ktr_units))); (case h0 => omega); (case h1 => omega); (case h2 => (show _ ≤ (18446744073709551616 : Int); omega))
  ((intro h9 t9 k9 hb9; (try dsimp only); (obtain ⟨g9, T9, F9, N9, B9, X9, P9, D9⟩ := turn_after (k := hb9) (by k_asm) (by k_asm) (by k_asm) (by k_asm) (by k_asm) (by k_asm)); clear hb9; (first | (replace T9 := KtsTurn.trans (by with_reducible assumption) T9) | skip); (try k_lift B9); (try k_sweep)))
  repeat' ((fail_if_success (with_reducible show wpC _ _ _ _ _ _)); (first | (k_unfold; (try dsimp only)) | (k_end; wrow_close) | walk1 | (dsimp only; walk1) | (leave1; (try dsimp only)) | fail "no step"))
  refine wpC_execs_nil ?_
  refine wpC_execs ?_
  refine wpC_If ?_
  refine wpC_isTrue_and ?_
  refine wpC_any ?_
  repeat' ((fail_if_success (with_reducible show wpC _ _ _ _ _ _)); (first | (k_unfold; (try dsimp only)) | (k_end; wrow_close) | walk1 | (dsimp only; walk1) | (leave1; (try dsimp only)) | fail "no step"))
  refine wpC_isTrue_and ?_
  refine wpC_isTrue_or ?_
  refine wpC_isTrue_Compare ?_
  refine wpC_Call_Name ?_
  repeat' ((fail_if_success (with_reducible show wpC _ _ _ _ _ _)); (first | (k_unfold; (try dsimp only)) | (k_end; wrow_close) | walk1 | (dsimp only; walk1) | (leave1; (try dsimp only)) | fail "no step"))
  refine' wpC_callWith_K ?kX ?kI ?_; (case kX => k_asm); (case kI => k_is)
  repeat' ((fail_if_success (with_reducible show wpC _ _ _ _ _ _)); (first | (k_unfold; (try dsimp only)) | (k_end; wrow_close) | walk1 | (dsimp only; walk1) | (leave1; (try dsimp only)) | fail "no step"))
  refine' rq_short0 ?B ?F ?X ?T ?XB ?TB ?D ?hk ?hd ?hu ?h0 ?_; (((case B => k_asm); (case F => k_asm); (case X => k_asm); (case T => k_asm); (case XB => k_asm); (case TB => k_asm); (case D => k_asm); (case hk => first | exact rfl | assumption); (case hd => ktr_room); (case hu => ktr_units))); (case h0 => assumption)
  ((intro h9 t9 k9 hb9; (try dsimp only); (obtain ⟨g9, T9, F9, N9, B9, X9, P9, D9⟩ := turn_after (k := hb9) (by k_asm) (by k_asm) (by k_asm) (by k_asm) (by k_asm) (by k_asm)); clear hb9; (first | (replace T9 := KtsTurn.trans (by with_reducible assumption) T9) | skip); (try k_lift B9); (try k_sweep)))
  repeat' ((fail_if_success (with_reducible show wpC _ _ _ _ _ _)); (first | (k_unfold; (try dsimp only)) | (k_end; wrow_close) | walk1 | (dsimp only; walk1) | (leave1; (try dsimp only)) | fail "no step"))
  refine wpC_isTrue_or ?_
  refine wpC_isTrue_Compare ?_
  refine wpC_Call_Name ?_
  repeat' ((fail_if_success (with_reducible show wpC _ _ _ _ _ _)); (first | (k_unfold; (try dsimp only)) | (k_end; wrow_close) | walk1 | (dsimp only; walk1) | (leave1; (try dsimp only)) | fail "no step"))
  refine' wpC_callWith_K ?kX ?kI ?_; (case kX => k_asm); (case kI => k_is)
  repeat' ((fail_if_success (with_reducible show wpC _ _ _ _ _ _)); (first | (k_unfold; (try dsimp only)) | (k_end; wrow_close) | walk1 | (dsimp only; walk1) | (leave1; (try dsimp only)) | fail "no step"))
  refine' rq_big0 ?B ?F ?X ?T ?XB ?TB ?D ?hk ?hd ?hu ?h0 ?h1 ?h2 ?_; (((case B => k_asm); (case F => k_asm); (case X => k_asm); (case T => k_asm); (case XB => k_asm); (case TB => k_asm); (case D => k_asm); (case hk => first | exact rfl | assumption); (case hd => ktr_room); (case hu => ktr_units))); (case h0 => omega); (case h1 => omega); (case h2 => omega)
  ((intro h9 t9 k9 hb9; (try dsimp only); (obtain ⟨g9, T9, F9, N9, B9, X9, P9, D9⟩ := turn_after (k := hb9) (by k_asm) (by k_asm) (by k_asm) (by k_asm) (by k_asm) (by k_asm)); clear hb9; (first | (replace T9 := KtsTurn.trans (by with_reducible assumption) T9) | skip); (try k_lift B9); (try k_sweep)))
  repeat' ((fail_if_success (with_reducible show wpC _ _ _ _ _ _)); (first | (k_unfold; (try dsimp only)) | (k_end; wrow_close) | walk1 | (dsimp only; walk1) | (leave1; (try dsimp only)) | fail "no step"))
  refine wpC_isTrue_or ?_
  refine wpC_isTrue_Compare ?_
  refine wpC_Call_Name ?_
  repeat' ((fail_if_success (with_reducible show wpC _ _ _ _ _ _)); (first | (k_unfold; (try dsimp only)) | (k_end; wrow_close) | walk1 | (dsimp only; walk1) | (leave1; (try dsimp only)) | fail "no step"))
  refine' wpC_callWith_K ?kX ?kI ?_; (case kX => k_asm); (case kI => k_is)
  repeat' ((fail_if_success (with_reducible show wpC _ _ _ _ _ _)); (first | (k_unfold; (try dsimp only)) | (k_end; wrow_close) | walk1 | (dsimp only; walk1) | (leave1; (try dsimp only)) | fail "no step"))
  refine' rq_ok0 ?B ?F ?X ?T ?XB ?TB ?D ?hk ?hd ?hu ?h0 ?h1 ?h2 ?_; (((case B => k_asm); (case F => k_asm); (case X => k_asm); (case T => k_asm); (case XB => k_asm); (case TB => k_asm); (case D => k_asm); (case hk => first | exact rfl | assumption); (case hd => ktr_room); (case hu => ktr_units))); (case h0 => omega); (case h1 => omega); (case h2 => omega)
  ((intro h9 t9 k9 hb9; (try dsimp only); (obtain ⟨g9, T9, F9, N9, B9, X9, P9, D9⟩ := turn_after (k := hb9) (by k_asm) (by k_asm) (by k_asm) (by k_asm) (by k_asm) (by k_asm)); clear hb9; (first | (replace T9 := KtsTurn.trans (by with_reducible assumption) T9) | skip); (try k_lift B9); (try k_sweep)))
  repeat' ((fail_if_success (with_reducible show wpC _ _ _ _ _ _)); (first | (k_unfold; (try dsimp only)) | (k_end; wrow_close) | walk1 | (dsimp only; walk1) | (leave1; (try dsimp only)) | fail "no step"))
  refine wpC_isTrue_or_nil ?_
  repeat' ((fail_if_success (with_reducible show wpC _ _ _ _ _ _)); (first | (k_unfold; (try dsimp only)) | (k_end; wrow_close) | walk1 | (dsimp only; walk1) | (leave1; (try dsimp only)) | fail "no step"))
  refine wpC_execs_nil ?_
  refine wpC_execs_nil ?_
  refine wpC_execs_nil ?_
  refine' forC_turn (c := L' + 1) (L := L') ?fl ?fx ?fp ?fF ?fN ?fI ?fc ?fh ?fk ?_; (case fl => exact rfl); (case fx => exact rfl); (case fp => exact rfl); (case fF => k_asm); (case fN => k_asm); (case fI => k_mem); (case fc => k_mem); (case fh => assumption); (case fk => decide)
  intro h9 t9 k9 F9 N9; (try k_sweep)
  refine wpC_execs ?_
  refine wpC_If ?_
  refine wpC_any ?_
  repeat' ((fail_if_success (with_reducible show wpC _ _ _ _ _ _)); (first | (k_unfold; (try dsimp only)) | (k_end; wrow_close) | walk1 | (dsimp only; walk1) | (leave1; (try dsimp only)) | fail "no step"))
  refine wpC_execs ?_
  refine wpC_any ?_
  repeat' ((fail_if_success (with_reducible show wpC _ _ _ _ _ _)); (first | (k_unfold; (try dsimp only)) | (k_end; wrow_close) | walk1 | (dsimp only; walk1) | (leave1; (try dsimp only)) | fail "no step"))
  refine wpC_execs ?_
  refine wpC_any ?_
  repeat' ((fail_if_success (with_reducible show wpC _ _ _ _ _ _)); (first | (k_unfold; (try dsimp only)) | (k_end; wrow_close) | walk1 | (dsimp only; walk1) | (leave1; (try dsimp only)) | fail "no step"))
  refine wpC_execs ?_
  refine wpC_If ?_
  refine wpC_isTrue_and ?_
  refine wpC_any ?_
  repeat' ((fail_if_success (with_reducible show wpC _ _ _ _ _ _)); (first | (k_unfold; (try dsimp only)) | (k_end; wrow_close) | walk1 | (dsimp only; walk1) | (leave1; (try dsimp only)) | fail "no step"))
  refine wpC_isTrue_and ?_
  refine wpC_any ?_
  repeat' ((fail_if_success (with_reducible show wpC _ _ _ _ _ _)); (first | (k_unfold; (try dsimp only)) | (k_end; wrow_close) | walk1 | (dsimp only; walk1) | (leave1; (try dsimp only)) | fail "no step"))
  refine wpC_isTrue_and ?_
  refine wpC_isTrue_Compare ?_
  refine wpC_Call_Name ?_
  repeat' ((fail_if_success (with_reducible show wpC _ _ _ _ _ _)); (first | (k_unfold; (try dsimp only)) | (k_end; wrow_close) | walk1 | (dsimp only; walk1) | (leave1; (try dsimp only)) | fail "no step"))
  refine' wpC_callWith_K ?kX ?kI ?_; (case kX => k_asm); (case kI => k_is)
  repeat' ((fail_if_success (with_reducible show wpC _ _ _ _ _ _)); (first | (k_unfold; (try dsimp only)) | (k_end; wrow_close) | walk1 | (dsimp only; walk1) | (leave1; (try dsimp only)) | fail "no step"))
  refine' rq_small1 ?B ?F ?X ?T ?XB ?TB ?D ?hk ?hd ?hu ?h0 ?h1 ?h2 ?_; (((case B => k_asm); (case F => k_asm); (case X => k_asm); (case T => k_asm); (case XB => k_asm); (case TB => k_asm); (case D => k_asm); (case hk => first | exact rfl | assumption); (case hd => ktr_room); (case hu => ktr_units))); (case h0 => omega); (case h1 => omega); (case h2 => (show (0 : Int) ≤ 18446744073709551616; decide))
  ((intro h9 t9 k9 hb9; (try dsimp only); (obtain ⟨g9, T9, F9, N9, B9, X9, P9, D9⟩ := turn_after (k := hb9) (by k_asm) (by k_asm) (by k_asm) (by k_asm) (by k_asm) (by k_asm)); clear hb9; (first | (replace T9 := KtsTurn.trans (by with_reducible assumption) T9) | skip); (try k_lift B9); (try k_sweep)))
  repeat' ((fail_if_success (with_reducible show wpC _ _ _ _ _ _)); (first | (k_unfold; (try dsimp only)) | (k_end; wrow_close) | walk1 | (dsimp only; walk1) | (leave1; (try dsimp only)) | fail "no step"))
  refine wpC_execs_nil ?_
  refine wpC_execs ?_
  refine wpC_If ?_
  refine wpC_isTrue_and ?_
  refine wpC_any ?_
  repeat' ((fail_if_success (with_reducible show wpC _ _ _ _ _ _)); (first | (k_unfold; (try dsimp only)) | (k_end; wrow_close) | walk1 | (dsimp only; walk1) | (leave1; (try dsimp only)) | fail "no step"))
  refine wpC_execs_nil ?_
  refine wpC_execs_nil ?_
  refine wpC_execs_nil ?_
  refine' forC_turn (c := L' + 1) (L := L') ?fl ?fx ?fp ?fF ?fN ?fI ?fc ?fh ?fk ?_; (case fl => exact rfl); (case fx => exact rfl); (case fp => exact rfl); (case fF => k_asm); (case fN => k_asm); (case fI => k_mem); (case fc => k_mem); (case fh => assumption); (case fk => decide)
  intro h9 t9 k9 F9 N9; (try k_sweep)
  refine wpC_execs ?_
  refine wpC_If ?_
  refine wpC_any ?_
  repeat' ((fail_if_success (with_reducible show wpC _ _ _ _ _ _)); (first | (k_unfold; (try dsimp only)) | (k_end; wrow_close) | walk1 | (dsimp only; walk1) | (leave1; (try dsimp only)) | fail "no step"))
  refine wpC_execs ?_
  refine wpC_any ?_
  repeat' ((fail_if_success (with_reducible show wpC _ _ _ _ _ _)); (first | (k_unfold; (try dsimp only)) | (k_end; wrow_close) | walk1 | (dsimp only; walk1) | (leave1; (try dsimp only)) | fail "no step"))
  refine wpC_execs ?_
  refine wpC_any ?_
  repeat' ((fail_if_success (with_reducible show wpC _ _ _ _ _ _)); (first | (k_unfold; (try dsimp only)) | (k_end; wrow_close) | walk1 | (dsimp only; walk1) | (leave1; (try dsimp only)) | fail "no step"))
  refine wpC_execs ?_
  refine wpC_If ?_
  refine wpC_isTrue_and ?_
  refine wpC_any ?_
  repeat' ((fail_if_success (with_reducible show wpC _ _ _ _ _ _)); (first | (k_unfold; (try dsimp only)) | (k_end; wrow_close) | walk1 | (dsimp only; walk1) | (leave1; (try dsimp only)) | fail "no step"))
  refine wpC_isTrue_and ?_
  refine wpC_any ?_
  repeat' ((fail_if_success (with_reducible show wpC _ _ _ _ _ _)); (first | (k_unfold; (try dsimp only)) | (k_end; wrow_close) | walk1 | (dsimp only; walk1) | (leave1; (try dsimp only)) | fail "no step"))
  refine wpC_isTrue_and ?_
  refine wpC_isTrue_Compare ?_
  refine wpC_Call_Name ?_
  repeat' ((fail_if_success (with_reducible show wpC _ _ _ _ _ _)); (first | (k_unfold; (try dsimp only)) | (k_end; wrow_close) | walk1 | (dsimp only; walk1) | (leave1; (try dsimp only)) | fail "no step"))
  refine' wpC_callWith_K ?kX ?kI ?_; (case kX => k_asm); (case kI => k_is)
  repeat' ((fail_if_success (with_reducible show wpC _ _ _ _ _ _)); (first | (k_unfold; (try dsimp only)) | (k_end; wrow_close) | walk1 | (dsimp only; walk1) | (leave1; (try dsimp only)) | fail "no step"))
  refine' rq_small2 ?B ?F ?X ?T ?XB ?TB ?D ?hk ?hd ?hu ?h0 ?h1 ?h2 ?_; (((case B => k_asm); (case F => k_asm); (case X => k_asm); (case T => k_asm); (case XB => k_asm); (case TB => k_asm); (case D => k_asm); (case hk => first | exact rfl | assumption); (case hd => ktr_room); (case hu => ktr_units))); (case h0 => omega); (case h1 => omega); (case h2 => (show (0 : Int) ≤ 18446744073709551616; decide))
  ((intro h9 t9 k9 hb9; (try dsimp only); (obtain ⟨g9, T9, F9, N9, B9, X9, P9, D9⟩ := turn_after (k := hb9) (by k_asm) (by k_asm) (by k_asm) (by k_asm) (by k_asm) (by k_asm)); clear hb9; (first | (replace T9 := KtsTurn.trans (by with_reducible assumption) T9) | skip); (try k_lift B9); (try k_sweep)))
  repeat' ((fail_if_success (with_reducible show wpC _ _ _ _ _ _)); (first | (k_unfold; (try dsimp only)) | (k_end; wrow_close) | walk1 | (dsimp only; walk1) | (leave1; (try dsimp only)) | fail "no step"))
  refine wpC_execs_nil ?_
  refine wpC_execs ?_
  refine wpC_If ?_
  refine wpC_isTrue_and ?_
  refine wpC_any ?_
  repeat' ((fail_if_success (with_reducible show wpC _ _ _ _ _ _)); (first | (k_unfold; (try dsimp only)) | (k_end; wrow_close) | walk1 | (dsimp only; walk1) | (leave1; (try dsimp only)) | fail "no step"))
  refine wpC_execs_nil ?_
  refine wpC_execs_nil ?_
  refine wpC_execs_nil ?_
  refine' forC_turn (c := L' + 1) (L := L') ?fl ?fx ?fp ?fF ?fN ?fI ?fc ?fh ?fk ?_; (case fl => exact rfl); (case fx => exact rfl); (case fp => exact rfl); (case fF => k_asm); (case fN => k_asm); (case fI => k_mem); (case fc => k_mem); (case fh => assumption); (case fk => decide)
  intro h9 t9 k9 F9 N9; (try k_sweep)
  refine wpC_execs ?_
  refine wpC_If ?_
  refine wpC_any ?_
  repeat' ((fail_if_success (with_reducible show wpC _ _ _ _ _ _)); (first | (k_unfold; (try dsimp only)) | (k_end; wrow_close) | walk1 | (dsimp only; walk1) | (leave1; (try dsimp only)) | fail "no step"))
  refine wpC_execs ?_
  refine wpC_any ?_
  repeat' ((fail_if_success (with_reducible show wpC _ _ _ _ _ _)); (first | (k_unfold; (try dsimp only)) | (k_end; wrow_close) | walk1 | (dsimp only; walk1) | (leave1; (try dsimp only)) | fail "no step"))
  refine wpC_execs ?_
  refine wpC_any ?_
  repeat' ((fail_if_success (with_reducible show wpC _ _ _ _ _ _)); (first | (k_unfold; (try dsimp only)) | (k_end; wrow_close) | walk1 | (dsimp only; walk1) | (leave1; (try dsimp only)) | fail "no step"))
  refine wpC_execs ?_
  refine wpC_If ?_
  refine wpC_isTrue_and ?_
  refine wpC_any ?_
  repeat' ((fail_if_success (with_reducible show wpC _ _ _ _ _ _)); (first | (k_unfold; (try dsimp only)) | (k_end; wrow_close) | walk1 | (dsimp only; walk1) | (leave1; (try dsimp only)) | fail "no step"))
  refine wpC_isTrue_and ?_
  refine wpC_any ?_
  repeat' ((fail_if_success (with_reducible show wpC _ _ _ _ _ _)); (first | (k_unfold; (try dsimp only)) | (k_end; wrow_close) | walk1 | (dsimp only; walk1) | (leave1; (try dsimp only)) | fail "no step"))
  refine wpC_isTrue_and ?_
  refine wpC_isTrue_Compare ?_
  refine wpC_Call_Name ?_
  repeat' ((fail_if_success (with_reducible show wpC _ _ _ _ _ _)); (first | (k_unfold; (try dsimp only)) | (k_end; wrow_close) | walk1 | (dsimp only; walk1) | (leave1; (try dsimp only)) | fail "no step"))
  refine' wpC_callWith_K ?kX ?kI ?_; (case kX => k_asm); (case kI => k_is)
  repeat' ((fail_if_success (with_reducible show wpC _ _ _ _ _ _)); (first | (k_unfold; (try dsimp only)) | (k_end; wrow_close) | walk1 | (dsimp only; walk1) | (leave1; (try dsimp only)) | fail "no step"))
  refine' rq_small3 ?B ?F ?X ?T ?XB ?TB ?D ?hk ?hd ?hu ?h0 ?h1 ?h2 ?_; (((case B => k_asm); (case F => k_asm); (case X => k_asm); (case T => k_asm); (case XB => k_asm); (case TB => k_asm); (case D => k_asm); (case hk => first | exact rfl | assumption); (case hd => ktr_room); (case hu => ktr_units))); (case h0 => omega); (case h1 => omega); (case h2 => (show (0 : Int) ≤ 18446744073709551616; decide))
  ((intro h9 t9 k9 hb9; (try dsimp only); (obtain ⟨g9, T9, F9, N9, B9, X9, P9, D9⟩ := turn_after (k := hb9) (by k_asm) (by k_asm) (by k_asm) (by k_asm) (by k_asm) (by k_asm)); clear hb9; (first | (replace T9 := KtsTurn.trans (by with_reducible assumption) T9) | skip); (try k_lift B9); (try k_sweep)))
  repeat' ((fail_if_success (with_reducible show wpC _ _ _ _ _ _)); (first | (k_unfold; (try dsimp only)) | (k_end; wrow_close) | walk1 | (dsimp only; walk1) | (leave1; (try dsimp only)) | fail "no step"))
  refine wpC_execs_nil ?_
  refine wpC_execs ?_
  refine wpC_If ?_
  refine wpC_isTrue_and ?_
  refine wpC_any ?_
  repeat' ((fail_if_success (with_reducible show wpC _ _ _ _ _ _)); (first | (k_unfold; (try dsimp only)) | (k_end; wrow_close) | walk1 | (dsimp only; walk1) | (leave1; (try dsimp only)) | fail "no step"))
  refine wpC_execs_nil ?_
  refine wpC_execs_nil ?_
  refine wpC_execs_nil ?_
  refine' forC_end (c := L' + 1) (L := L') ?fh ?fF ?fN ?fI ?fc ?fq ?fk ?_; (case fh => exact rfl); (case fF => k_asm); (case fN => k_asm); (case fI => k_mem); (case fc => k_mem); (case fq => assumption); (case fk => decide)
  intro h9 F9 N9
  refine wpC_any ?_
  repeat' ((fail_if_success (with_reducible show wpC _ _ _ _ _ _)); (first | (k_unfold; (try dsimp only)) | (k_end; wrow_close) | walk1 | (dsimp only; walk1) | (leave1; (try dsimp only)) | fail "no step"))
  all_goals exact hret _ tn _ (Back.of_turn (by assumption) (by assumption))
set_option maxHeartbeats 1500000 in
theorem ll1a (B : Below A₀ base outer h₀) (F : Fr h₀ L s.heap m) (X : (hd.heap_39 w.params).In h₀) (T : Top hd.view_39 Lz mean mg mb h₀) (XB : (hd.heap_39 w.params).In base) (TB : Top hd.view_39 Lz mean mg mb base) (D : KtsDicts (fsOf outer) h₀) (hk : cs.kind = .function) (hdp : dp + 24 < recursionLimit) (hun : un + 200 < cLine)
    {n : Int} {tn : Tok} (hn : 253 ≤ n) (hn' : n < 256) (hret : RetT s (L :: fsOf outer) Q fun t => .bool true) :
    wpC (model Challenge.pw_ez0013_01 w) (ktrTop dp un gd cn cs L a ccd cl outer) (call (.ref 746) [.int n tn]) Q E s := by
  have D1 := own_dictsX (cn := cn) (cs := cs) (a := a) (ccd := ccd) (cl := cl) F D
  refine wpC_call ?_
  k_dflt (((refine' code_ownXC (binds := [(Str.ofString "number", Value.int n tn)]) ?k1 ?k2 ?k3 ?k5 ?kA ?kF ?kK ?k6 ?k7 ?k8 ?k9 ?kB ?kD ?_ ?c2 ?c3 ?c4; (case kA => exact rfl); (case kF => exact rfl); (case kK => first | exact rfl | assumption); (case k1 => k_asm); (case k2 => k_asm); (case k3 => k_asm); (case k5 => k_asm); (case k6 => k_is); (case k7 => k_is); (case k8 => ktr_room); (case k9 => first | exact BindsTo.of_eq rfl | exact binds_K (by k_in) rfl (by k_is) rfl rfl rfl); (case kB => exact rfl); (case kD => decide +kernel); (case c2 => exact rfl); (case c3 => exact rfl); (case c4 => exact rfl); k_whole; intro L' h' tk' cells' F' N' Y' B' X' T'; k_cells Y'; (try simp only [List.cons_append, List.nil_append] at N'); (try dsimp only); (try k_lift B'); (try k_fold))))
  refine wpC_execs ?_
  refine wpC_any ?_
  repeat' ((fail_if_success (with_reducible show wpC _ _ _ _ _ _)); (first | (k_unfold; (try dsimp only)) | (k_end; wrow_close) | walk1 | (dsimp only; walk1) | (leave1; (try dsimp only)) | fail "no step"))
  refine wpC_execs ?_
  refine wpC_any ?_
  repeat' ((fail_if_success (with_reducible show wpC _ _ _ _ _ _)); (first | (k_unfold; (try dsimp only)) | (k_end; wrow_close) | walk1 | (dsimp only; walk1) | (leave1; (try dsimp only)) | fail "no step"))
  refine wpC_execs ?_
  refine wpC_any ?_
  repeat' ((fail_if_success (with_reducible show wpC _ _ _ _ _ _)); (first | (k_unfold; (try dsimp only)) | (k_end; wrow_close) | walk1 | (dsimp only; walk1) | (leave1; (try dsimp only)) | fail "no step"))
  refine wpC_execs ?_
  refine wpC_For ?_
  repeat' ((fail_if_success (with_reducible show wpC _ _ _ _ _ _)); (first | (k_unfold; (try dsimp only)) | (k_end; wrow_close) | walk1 | (dsimp only; walk1) | (leave1; (try dsimp only)) | fail "no step"))
  refine' iterC (c := L' + 1) (L := L') (k := 4) ?ir ?is ?ik ?iF ?iN ?ic ?_; (case ir => assumption); (case is => decide); (case ik => rfl); (case iF => k_asm); (case iN => k_asm); (case ic => k_mem)
  intro I9 h9 F9 N9 hI9; (try k_sweep)
  refine' forC_turn (c := L' + 1) (L := L') ?fl ?fx ?fp ?fF ?fN ?fI ?fc ?fh ?fk ?_; (case fl => exact rfl); (case fx => exact rfl); (case fp => exact rfl); (case fF => k_asm); (case fN => k_asm); (case fI => k_mem); (case fc => k_mem); (case fh => assumption); (case fk => decide)
  intro h9 t9 k9 F9 N9; (try k_sweep)
  refine wpC_execs ?_
  refine wpC_If ?_
  refine wpC_any ?_
  repeat' ((fail_if_success (with_reducible show wpC _ _ _ _ _ _)); (first | (k_unfold; (try dsimp only)) | (k_end; wrow_close) | walk1 | (dsimp only; walk1) | (leave1; (try dsimp only)) | fail "no step"))
  refine wpC_execs ?_
  refine wpC_any ?_
  repeat' ((fail_if_success (with_reducible show wpC _ _ _ _ _ _)); (first | (k_unfold; (try dsimp only)) | (k_end; wrow_close) | walk1 | (dsimp only; walk1) | (leave1; (try dsimp only)) | fail "no step"))
  refine wpC_execs ?_
  refine wpC_any ?_
  repeat' ((fail_if_success (with_reducible show wpC _ _ _ _ _ _)); (first | (k_unfold; (try dsimp only)) | (k_end; wrow_close) | walk1 | (dsimp only; walk1) | (leave1; (try dsimp only)) | fail "no step"))
  refine wpC_execs ?_
  refine wpC_If ?_
  refine wpC_isTrue_and ?_
  refine wpC_any ?_
  repeat' ((fail_if_success (with_reducible show wpC _ _ _ _ _ _)); (first | (k_unfold; (try dsimp only)) | (k_end; wrow_close) | walk1 | (dsimp only; walk1) | (leave1; (try dsimp only)) | fail "no step"))
  refine wpC_isTrue_and ?_
  refine wpC_any ?_
  repeat' ((fail_if_success (with_reducible show wpC _ _ _ _ _ _)); (first | (k_unfold; (try dsimp only)) | (k_end; wrow_close) | walk1 | (dsimp only; walk1) | (leave1; (try dsimp only)) | fail "no step"))
  refine wpC_execs_nil ?_
  refine wpC_execs ?_
  refine wpC_If ?_
  refine wpC_isTrue_and ?_
  refine wpC_any ?_
  repeat' ((fail_if_success (with_reducible show wpC _ _ _ _ _ _)); (first | (k_unfold; (try dsimp only)) | (k_end; wrow_close) | walk1 | (dsimp only; walk1) | (leave1; (try dsimp only)) | fail "no step"))
  refine wpC_execs_nil ?_
  refine wpC_execs_nil ?_
  refine wpC_execs_nil ?_
  refine' forC_turn (c := L' + 1) (L := L') ?fl ?fx ?fp ?fF ?fN ?fI ?fc ?fh ?fk ?_; (case fl => exact rfl); (case fx => exact rfl); (case fp => exact rfl); (case fF => k_asm); (case fN => k_asm); (case fI => k_mem); (case fc => k_mem); (case fh => assumption); (case fk => decide)
  intro h9 t9 k9 F9 N9; (try k_sweep)
  refine wpC_execs ?_
  refine wpC_If ?_
  refine wpC_any ?_
  repeat' ((fail_if_success (with_reducible show wpC _ _ _ _ _ _)); (first | (k_unfold; (try dsimp only)) | (k_end; wrow_close) | walk1 | (dsimp only; walk1) | (leave1; (try dsimp only)) | fail "no step"))
  refine wpC_execs ?_
  refine wpC_any ?_
  repeat' ((fail_if_success (with_reducible show wpC _ _ _ _ _ _)); (first | (k_unfold; (try dsimp only)) | (k_end; wrow_close) | walk1 | (dsimp only; walk1) | (leave1; (try dsimp only)) | fail "no step"))
  refine wpC_execs ?_
  refine wpC_any ?_
  repeat' ((fail_if_success (with_reducible show wpC _ _ _ _ _ _)); (first | (k_unfold; (try dsimp only)) | (k_end; wrow_close) | walk1 | (dsimp only; walk1) | (leave1; (try dsimp only)) | fail "no step"))
  refine wpC_execs ?_
  refine wpC_If ?_
  refine wpC_isTrue_and ?_
  refine wpC_any ?_
  repeat' ((fail_if_success (with_reducible show wpC _ _ _ _ _ _)); (first | (k_unfold; (try dsimp only)) | (k_end; wrow_close) | walk1 | (dsimp only; walk1) | (leave1; (try dsimp only)) | fail "no step"))
  refine wpC_isTrue_and ?_
  refine wpC_any ?_
  repeat' ((fail_if_success (with_reducible show wpC _ _ _ _ _ _)); (first | (k_unfold; (try dsimp only)) | (k_end; wrow_close) | walk1 | (dsimp only; walk1) | (leave1; (try dsimp only)) | fail "no step"))
  refine wpC_isTrue_and ?_
  refine wpC_isTrue_Compare ?_
  refine wpC_Call_Name ?_
  repeat' ((fail_if_success (with_reducible show wpC _ _ _ _ _ _)); (first | (k_unfold; (try dsimp only)) | (k_end; wrow_close) | walk1 | (dsimp only; walk1) | (leave1; (try dsimp only)) | fail "no step"))
  refine' wpC_callWith_K ?kX ?kI ?_; (case kX => k_asm); (case kI => k_is)
  repeat' ((fail_if_success (with_reducible show wpC _ _ _ _ _ _)); (first | (k_unfold; (try dsimp only)) | (k_end; wrow_close) | walk1 | (dsimp only; walk1) | (leave1; (try dsimp only)) | fail "no step"))
  refine' rq_ok1 ?B ?F ?X ?T ?XB ?TB ?D ?hk ?hd ?hu ?h0 ?h1 ?h2 ?_; (((case B => k_asm); (case F => k_asm); (case X => k_asm); (case T => k_asm); (case XB => k_asm); (case TB => k_asm); (case D => k_asm); (case hk => first | exact rfl | assumption); (case hd => ktr_room); (case hu => ktr_units))); (case h0 => omega); (case h1 => omega); (case h2 => (show _ ≤ (18446744073709551616 : Int); omega))
  ((intro h9 t9 k9 hb9; (try dsimp only); (obtain ⟨g9, T9, F9, N9, B9, X9, P9, D9⟩ := turn_after (k := hb9) (by k_asm) (by k_asm) (by k_asm) (by k_asm) (by k_asm) (by k_asm)); clear hb9; (first | (replace T9 := KtsTurn.trans (by with_reducible assumption) T9) | skip); (try k_lift B9); (try k_sweep)))
  repeat' ((fail_if_success (with_reducible show wpC _ _ _ _ _ _)); (first | (k_unfold; (try dsimp only)) | (k_end; wrow_close) | walk1 | (dsimp only; walk1) | (leave1; (try dsimp only)) | fail "no step"))
  refine wpC_execs_nil ?_
  refine wpC_execs ?_
  refine wpC_If ?_
  refine wpC_isTrue_and ?_
  refine wpC_any ?_
  repeat' ((fail_if_success (with_reducible show wpC _ _ _ _ _ _)); (first | (k_unfold; (try dsimp only)) | (k_end; wrow_close) | walk1 | (dsimp only; walk1) | (leave1; (try dsimp only)) | fail "no step"))
  refine wpC_isTrue_and ?_
  refine wpC_isTrue_or ?_
  refine wpC_isTrue_Compare ?_
  refine wpC_Call_Name ?_
  repeat' ((fail_if_success (with_reducible show wpC _ _ _ _ _ _)); (first | (k_unfold; (try dsimp only)) | (k_end; wrow_close) | walk1 | (dsimp only; walk1) | (leave1; (try dsimp only)) | fail "no step"))
  refine' wpC_callWith_K ?kX ?kI ?_; (case kX => k_asm); (case kI => k_is)
  repeat' ((fail_if_success (with_reducible show wpC _ _ _ _ _ _)); (first | (k_unfold; (try dsimp only)) | (k_end; wrow_close) | walk1 | (dsimp only; walk1) | (leave1; (try dsimp only)) | fail "no step"))
  refine' rq_short1 ?B ?F ?X ?T ?XB ?TB ?D ?hk ?hd ?hu ?h0 ?h1 ?_; (((case B => k_asm); (case F => k_asm); (case X => k_asm); (case T => k_asm); (case XB => k_asm); (case TB => k_asm); (case D => k_asm); (case hk => first | exact rfl | assumption); (case hd => ktr_room); (case hu => ktr_units))); (case h0 => assumption); (case h1 => assumption)
  ((intro h9 t9 k9 hb9; (try dsimp only); (obtain ⟨g9, T9, F9, N9, B9, X9, P9, D9⟩ := turn_after (k := hb9) (by k_asm) (by k_asm) (by k_asm) (by k_asm) (by k_asm) (by k_asm)); clear hb9; (first | (replace T9 := KtsTurn.trans (by with_reducible assumption) T9) | skip); (try k_lift B9); (try k_sweep)))
  repeat' ((fail_if_success (with_reducible show wpC _ _ _ _ _ _)); (first | (k_unfold; (try dsimp only)) | (k_end; wrow_close) | walk1 | (dsimp only; walk1) | (leave1; (try dsimp only)) | fail "no step"))
  refine wpC_isTrue_or ?_
  refine wpC_isTrue_Compare ?_
  refine wpC_Call_Name ?_
  repeat' ((fail_if_success (with_reducible show wpC _ _ _ _ _ _)); (first | (k_unfold; (try dsimp only)) | (k_end; wrow_close) | walk1 | (dsimp only; walk1) | (leave1; (try dsimp only)) | fail "no step"))
  refine' wpC_callWith_K ?kX ?kI ?_; (case kX => k_asm); (case kI => k_is)
  repeat' ((fail_if_success (with_reducible show wpC _ _ _ _ _ _)); (first | (k_unfold; (try dsimp only)) | (k_end; wrow_close) | walk1 | (dsimp only; walk1) | (leave1; (try dsimp only)) | fail "no step"))
  refine' rq_big1 ?B ?F ?X ?T ?XB ?TB ?D ?hk ?hd ?hu ?h0 ?h1 ?h2 ?h3 ?_; (((case B => k_asm); (case F => k_asm); (case X => k_asm); (case T => k_asm); (case XB => k_asm); (case TB => k_asm); (case D => k_asm); (case hk => first | exact rfl | assumption); (case hd => ktr_room); (case hu => ktr_units))); (case h0 => omega); (case h1 => omega); (case h2 => omega); (case h3 => omega)
  ((intro h9 t9 k9 hb9; (try dsimp only); (obtain ⟨g9, T9, F9, N9, B9, X9, P9, D9⟩ := turn_after (k := hb9) (by k_asm) (by k_asm) (by k_asm) (by k_asm) (by k_asm) (by k_asm)); clear hb9; (first | (replace T9 := KtsTurn.trans (by with_reducible assumption) T9) | skip); (try k_lift B9); (try k_sweep)))
  repeat' ((fail_if_success (with_reducible show wpC _ _ _ _ _ _)); (first | (k_unfold; (try dsimp only)) | (k_end; wrow_close) | walk1 | (dsimp only; walk1) | (leave1; (try dsimp only)) | fail "no step"))
  refine wpC_isTrue_or ?_
  refine wpC_isTrue_Compare ?_
  refine wpC_Call_Name ?_
  repeat' ((fail_if_success (with_reducible show wpC _ _ _ _ _ _)); (first | (k_unfold; (try dsimp only)) | (k_end; wrow_close) | walk1 | (dsimp only; walk1) | (leave1; (try dsimp only)) | fail "no step"))
  refine' wpC_callWith_K ?kX ?kI ?_; (case kX => k_asm); (case kI => k_is)
  repeat' ((fail_if_success (with_reducible show wpC _ _ _ _ _ _)); (first | (k_unfold; (try dsimp only)) | (k_end; wrow_close) | walk1 | (dsimp only; walk1) | (leave1; (try dsimp only)) | fail "no step"))
  refine' rq_ok1 ?B ?F ?X ?T ?XB ?TB ?D ?hk ?hd ?hu ?h0 ?h1 ?h2 ?_; (((case B => k_asm); (case F => k_asm); (case X => k_asm); (case T => k_asm); (case XB => k_asm); (case TB => k_asm); (case D => k_asm); (case hk => first | exact rfl | assumption); (case hd => ktr_room); (case hu => ktr_units))); (case h0 => omega); (case h1 => omega); (case h2 => omega)
  ((intro h9 t9 k9 hb9; (try dsimp only); (obtain ⟨g9, T9, F9, N9, B9, X9, P9, D9⟩ := turn_after (k := hb9) (by k_asm) (by k_asm) (by k_asm) (by k_asm) (by k_asm) (by k_asm)); clear hb9; (first | (replace T9 := KtsTurn.trans (by with_reducible assumption) T9) | skip); (try k_lift B9); (try k_sweep)))
  repeat' ((fail_if_success (with_reducible show wpC _ _ _ _ _ _)); (first | (k_unfold; (try dsimp only)) | (k_end; wrow_close) | walk1 | (dsimp only; walk1) | (leave1; (try dsimp only)) | fail "no step"))
  refine wpC_isTrue_or_nil ?_
  repeat' ((fail_if_success (with_reducible show wpC _ _ _ _ _ _)); (first | (k_unfold; (try dsimp only)) | (k_end; wrow_close) | walk1 | (dsimp only; walk1) | (leave1; (try dsimp only)) | fail "no step"))
  refine wpC_execs_nil ?_
  refine wpC_execs_nil ?_
  refine wpC_execs_nil ?_
  refine' forC_turn (c := L' + 1) (L := L') ?fl ?fx ?fp ?fF ?fN ?fI ?fc ?fh ?fk ?_; (case fl => exact rfl); (case fx => exact rfl); (case fp => exact rfl); (case fF => k_asm); (case fN => k_asm); (case fI => k_mem); (case fc => k_mem); (case fh => assumption); (case fk => decide)
  intro h9 t9 k9 F9 N9; (try k_sweep)
  refine wpC_execs ?_
  refine wpC_If ?_
  refine wpC_any ?_
  repeat' ((fail_if_success (with_reducible show wpC _ _ _ _ _ _)); (first | (k_unfold; (try dsimp only)) | (k_end; wrow_close) | walk1 | (dsimp only; walk1) | (leave1; (try dsimp only)) | fail "no step"))
  refine wpC_execs ?_
  refine wpC_any ?_
  repeat' ((fail_if_success (with_reducible show wpC _ _ _ _ _ _)); (first | (k_unfold; (try dsimp only)) | (k_end; wrow_close) | walk1 | (dsimp only; walk1) | (leave1; (try dsimp only)) | fail "no step"))
  refine wpC_execs ?_
  refine wpC_any ?_
  repeat' ((fail_if_success (with_reducible show wpC _ _ _ _ _ _)); (first | (k_unfold; (try dsimp only)) | (k_end; wrow_close) | walk1 | (dsimp only; walk1) | (leave1; (try dsimp only)) | fail "no step"))
  refine wpC_execs ?_
  refine wpC_If ?_
  refine wpC_isTrue_and ?_
  refine wpC_any ?_
  repeat' ((fail_if_success (with_reducible show wpC _ _ _ _ _ _)); (first | (k_unfold; (try dsimp only)) | (k_end; wrow_close) | walk1 | (dsimp only; walk1) | (leave1; (try dsimp only)) | fail "no step"))
  refine wpC_isTrue_and ?_
  refine wpC_any ?_
  repeat' ((fail_if_success (with_reducible show wpC _ _ _ _ _ _)); (first | (k_unfold; (try dsimp only)) | (k_end; wrow_close) | walk1 | (dsimp only; walk1) | (leave1; (try dsimp only)) | fail "no step"))
  refine wpC_isTrue_and ?_
  refine wpC_isTrue_Compare ?_
  refine wpC_Call_Name ?_
  repeat' ((fail_if_success (with_reducible show wpC _ _ _ _ _ _)); (first | (k_unfold; (try dsimp only)) | (k_end; wrow_close) | walk1 | (dsimp only; walk1) | (leave1; (try dsimp only)) | fail "no step"))
  refine' wpC_callWith_K ?kX ?kI ?_; (case kX => k_asm); (case kI => k_is)
  repeat' ((fail_if_success (with_reducible show wpC _ _ _ _ _ _)); (first | (k_unfold; (try dsimp only)) | (k_end; wrow_close) | walk1 | (dsimp only; walk1) | (leave1; (try dsimp only)) | fail "no step"))
  refine' rq_small2 ?B ?F ?X ?T ?XB ?TB ?D ?hk ?hd ?hu ?h0 ?h1 ?h2 ?_; (((case B => k_asm); (case F => k_asm); (case X => k_asm); (case T => k_asm); (case XB => k_asm); (case TB => k_asm); (case D => k_asm); (case hk => first | exact rfl | assumption); (case hd => ktr_room); (case hu => ktr_units))); (case h0 => omega); (case h1 => omega); (case h2 => (show (0 : Int) ≤ 18446744073709551616; decide))
  ((intro h9 t9 k9 hb9; (try dsimp only); (obtain ⟨g9, T9, F9, N9, B9, X9, P9, D9⟩ := turn_after (k := hb9) (by k_asm) (by k_asm) (by k_asm) (by k_asm) (by k_asm) (by k_asm)); clear hb9; (first | (replace T9 := KtsTurn.trans (by with_reducible assumption) T9) | skip); (try k_lift B9); (try k_sweep)))
  repeat' ((fail_if_success (with_reducible show wpC _ _ _ _ _ _)); (first | (k_unfold; (try dsimp only)) | (k_end; wrow_close) | walk1 | (dsimp only; walk1) | (leave1; (try dsimp only)) | fail "no step"))
  refine wpC_execs_nil ?_
  refine wpC_execs ?_
  refine wpC_If ?_
  refine wpC_isTrue_and ?_
  refine wpC_any ?_
  repeat' ((fail_if_success (with_reducible show wpC _ _ _ _ _ _)); (first | (k_unfold; (try dsimp only)) | (k_end; wrow_close) | walk1 | (dsimp only; walk1) | (leave1; (try dsimp only)) | fail "no step"))
  refine wpC_execs_nil ?_
  refine wpC_execs_nil ?_
  refine wpC_execs_nil ?_
  refine' forC_turn (c := L' + 1) (L := L') ?fl ?fx ?fp ?fF ?fN ?fI ?fc ?fh ?fk ?_; (case fl => exact rfl); (case fx => exact rfl); (case fp => exact rfl); (case fF => k_asm); (case fN => k_asm); (case fI => k_mem); (case fc => k_mem); (case fh => assumption); (case fk => decide)
  intro h9 t9 k9 F9 N9; (try k_sweep)
  refine wpC_execs ?_
  refine wpC_If ?_
  refine wpC_any ?_
  repeat' ((fail_if_success (with_reducible show wpC _ _ _ _ _ _)); (first | (k_unfold; (try dsimp only)) | (k_end; wrow_close) | walk1 | (dsimp only; walk1) | (leave1; (try dsimp only)) | fail "no step"))
  refine wpC_execs ?_
  refine wpC_any ?_
  repeat' ((fail_if_success (with_reducible show wpC _ _ _ _ _ _)); (first | (k_unfold; (try dsimp only)) | (k_end; wrow_close) | walk1 | (dsimp only; walk1) | (leave1; (try dsimp only)) | fail "no step"))
  refine wpC_execs ?_
  refine wpC_any ?_
  repeat' ((fail_if_success (with_reducible show wpC _ _ _ _ _ _)); (first | (k_unfold; (try dsimp only)) | (k_end; wrow_close) | walk1 | (dsimp only; walk1) | (leave1; (try dsimp only)) | fail "no step"))
  refine wpC_execs ?_
  refine wpC_If ?_
  refine wpC_isTrue_and ?_
  refine wpC_any ?_
  repeat' ((fail_if_success (with_reducible show wpC _ _ _ _ _ _)); (first | (k_unfold; (try dsimp only)) | (k_end; wrow_close) | walk1 | (dsimp only; walk1) | (leave1; (try dsimp only)) | fail "no step"))
  refine wpC_isTrue_and ?_
  refine wpC_any ?_
  repeat' ((fail_if_success (with_reducible show wpC _ _ _ _ _ _)); (first | (k_unfold; (try dsimp only)) | (k_end; wrow_close) | walk1 | (dsimp only; walk1) | (leave1; (try dsimp only)) | fail "no step"))
  refine wpC_isTrue_and ?_
  refine wpC_isTrue_Compare ?_
  refine wpC_Call_Name ?_
  repeat' ((fail_if_success (with_reducible show wpC _ _ _ _ _ _)); (first | (k_unfold; (try dsimp only)) | (k_end; wrow_close) | walk1 | (dsimp only; walk1) | (leave1; (try dsimp only)) | fail "no step"))
  refine' wpC_callWith_K ?kX ?kI ?_; (case kX => k_asm); (case kI => k_is)
  repeat' ((fail_if_success (with_reducible show wpC _ _ _ _ _ _)); (first | (k_unfold; (try dsimp only)) | (k_end; wrow_close) | walk1 | (dsimp only; walk1) | (leave1; (try dsimp only)) | fail "no step"))
  refine' rq_small3 ?B ?F ?X ?T ?XB ?TB ?D ?hk ?hd ?hu ?h0 ?h1 ?h2 ?_; (((case B => k_asm); (case F => k_asm); (case X => k_asm); (case T => k_asm); (case XB => k_asm); (case TB => k_asm); (case D => k_asm); (case hk => first | exact rfl | assumption); (case hd => ktr_room); (case hu => ktr_units))); (case h0 => omega); (case h1 => omega); (case h2 => (show (0 : Int) ≤ 18446744073709551616; decide))
  ((intro h9 t9 k9 hb9; (try dsimp only); (obtain ⟨g9, T9, F9, N9, B9, X9, P9, D9⟩ := turn_after (k := hb9) (by k_asm) (by k_asm) (by k_asm) (by k_asm) (by k_asm) (by k_asm)); clear hb9; (first | (replace T9 := KtsTurn.trans (by with_reducible assumption) T9) | skip); (try k_lift B9); (try k_sweep)))
  repeat' ((fail_if_success (with_reducible show wpC _ _ _ _ _ _)); (first | (k_unfold; (try dsimp only)) | (k_end; wrow_close) | walk1 | (dsimp only; walk1) | (leave1; (try dsimp only)) | fail "no step"))
  refine wpC_execs_nil ?_
  refine wpC_execs ?_
  refine wpC_If ?_
  refine wpC_isTrue_and ?_
  refine wpC_any ?_
  repeat' ((fail_if_success (with_reducible show wpC _ _ _ _ _ _)); (first | (k_unfold; (try dsimp only)) | (k_end; wrow_close) | walk1 | (dsimp only; walk1) | (leave1; (try dsimp only)) | fail "no step"))
  refine wpC_execs_nil ?_
  refine wpC_execs_nil ?_
  refine wpC_execs_nil ?_
  refine' forC_end (c := L' + 1) (L := L') ?fh ?fF ?fN ?fI ?fc ?fq ?fk ?_; (case fh => exact rfl); (case fF => k_asm); (case fN => k_asm); (case fI => k_mem); (case fc => k_mem); (case fq => assumption); (case fk => decide)
  intro h9 F9 N9
  refine wpC_any ?_
  repeat' ((fail_if_success (with_reducible show wpC _ _ _ _ _ _)); (first | (k_unfold; (try dsimp only)) | (k_end; wrow_close) | walk1 | (dsimp only; walk1) | (leave1; (try dsimp only)) | fail "no step"))
  all_goals exact hret _ tn _ (Back.of_turn (by assumption) (by assumption))
set_option maxHeartbeats 1500000 in
theorem ll1b (B : Below A₀ base outer h₀) (F : Fr h₀ L s.heap m) (X : (hd.heap_39 w.params).In h₀) (T : Top hd.view_39 Lz mean mg mb h₀) (XB : (hd.heap_39 w.params).In base) (TB : Top hd.view_39 Lz mean mg mb base) (D : KtsDicts (fsOf outer) h₀) (hk : cs.kind = .function) (hdp : dp + 24 < recursionLimit) (hun : un + 200 < cLine)
    {n : Int} {tn : Tok} (hn : 256 ≤ n) (hn' : n < 65536) (hret : RetT s (L :: fsOf outer) Q fun t => .bool true) :
    wpC (model Challenge.pw_ez0013_01 w) (ktrTop dp un gd cn cs L a ccd cl outer) (call (.ref 746) [.int n tn]) Q E s := by
  have D1 := own_dictsX (cn := cn) (cs := cs) (a := a) (ccd := ccd) (cl := cl) F D
  refine wpC_call ?_
  k_dflt (((refine' code_ownXC (binds := [(Str.ofString "number", Value.int n tn)]) ?k1 ?k2 ?k3 ?k5 ?kA ?kF ?kK ?k6 ?k7 ?k8 ?k9 ?kB ?kD ?_ ?c2 ?c3 ?c4; (case kA => exact rfl); (case kF => exact rfl); (case kK => first | exact rfl | assumption); (case k1 => k_asm); (case k2 => k_asm); (case k3 => k_asm); (case k5 => k_asm); (case k6 => k_is); (case k7 => k_is); (case k8 => ktr_room); (case k9 => first | exact BindsTo.of_eq rfl | exact binds_K (by k_in) rfl (by k_is) rfl rfl rfl); (case kB => exact rfl); (case kD => decide +kernel); (case c2 => exact rfl); (case c3 => exact rfl); (case c4 => exact rfl); k_whole; intro L' h' tk' cells' F' N' Y' B' X' T'; k_cells Y'; (try simp only [List.cons_append, List.nil_append] at N'); (try dsimp only); (try k_lift B'); (try k_fold))))
  refine wpC_execs ?_
  refine wpC_any ?_
  repeat' ((fail_if_success (with_reducible show wpC _ _ _ _ _ _)); (first | (k_unfold; (try dsimp only)) | (k_end; wrow_close) | walk1 | (dsimp only; walk1) | (leave1; (try dsimp only)) | fail "no step"))
  refine wpC_execs ?_
  refine wpC_any ?_
  repeat' ((fail_if_success (with_reducible show wpC _ _ _ _ _ _)); (first | (k_unfold; (try dsimp only)) | (k_end; wrow_close) | walk1 | (dsimp only; walk1) | (leave1; (try dsimp only)) | fail "no step"))
  refine wpC_execs ?_
  refine wpC_any ?_
  repeat' ((fail_if_success (with_reducible show wpC _ _ _ _ _ _)); (first | (k_unfold; (try dsimp only)) | (k_end; wrow_close) | walk1 | (dsimp only; walk1) | (leave1; (try dsimp only)) | fail "no step"))
  refine wpC_execs ?_
  refine wpC_For ?_
  repeat' ((fail_if_success (with_reducible show wpC _ _ _ _ _ _)); (first | (k_unfold; (try dsimp only)) | (k_end; wrow_close) | walk1 | (dsimp only; walk1) | (leave1; (try dsimp only)) | fail "no step"))
  refine' iterC (c := L' + 1) (L := L') (k := 4) ?ir ?is ?ik ?iF ?iN ?ic ?_; (case ir => assumption); (case is => decide); (case ik => rfl); (case iF => k_asm); (case iN => k_asm); (case ic => k_mem)
  intro I9 h9 F9 N9 hI9; (try k_sweep)
  refine' forC_turn (c := L' + 1) (L := L') ?fl ?fx ?fp ?fF ?fN ?fI ?fc ?fh ?fk ?_; (case fl => exact rfl); (case fx => exact rfl); (case fp => exact rfl); (case fF => k_asm); (case fN => k_asm); (case fI => k_mem); (case fc => k_mem); (case fh => assumption); (case fk => decide)
  intro h9 t9 k9 F9 N9; (try k_sweep)
  refine wpC_execs ?_
  refine wpC_If ?_
  refine wpC_any ?_
  repeat' ((fail_if_success (with_reducible show wpC _ _ _ _ _ _)); (first | (k_unfold; (try dsimp only)) | (k_end; wrow_close) | walk1 | (dsimp only; walk1) | (leave1; (try dsimp only)) | fail "no step"))
  refine wpC_execs_nil ?_
  refine wpC_execs_nil ?_
  refine' forC_turn (c := L' + 1) (L := L') ?fl ?fx ?fp ?fF ?fN ?fI ?fc ?fh ?fk ?_; (case fl => exact rfl); (case fx => exact rfl); (case fp => exact rfl); (case fF => k_asm); (case fN => k_asm); (case fI => k_mem); (case fc => k_mem); (case fh => assumption); (case fk => decide)
  intro h9 t9 k9 F9 N9; (try k_sweep)
  refine wpC_execs ?_
  refine wpC_If ?_
  refine wpC_any ?_
  repeat' ((fail_if_success (with_reducible show wpC _ _ _ _ _ _)); (first | (k_unfold; (try dsimp only)) | (k_end; wrow_close) | walk1 | (dsimp only; walk1) | (leave1; (try dsimp only)) | fail "no step"))
  refine wpC_execs ?_
  refine wpC_any ?_
  repeat' ((fail_if_success (with_reducible show wpC _ _ _ _ _ _)); (first | (k_unfold; (try dsimp only)) | (k_end; wrow_close) | walk1 | (dsimp only; walk1) | (leave1; (try dsimp only)) | fail "no step"))
  refine wpC_execs ?_
  refine wpC_any ?_
  repeat' ((fail_if_success (with_reducible show wpC _ _ _ _ _ _)); (first | (k_unfold; (try dsimp only)) | (k_end; wrow_close) | walk1 | (dsimp only; walk1) | (leave1; (try dsimp only)) | fail "no step"))
  refine wpC_execs ?_
  refine wpC_If ?_
  refine wpC_isTrue_and ?_
  refine wpC_any ?_
  repeat' ((fail_if_success (with_reducible show wpC _ _ _ _ _ _)); (first | (k_unfold; (try dsimp only)) | (k_end; wrow_close) | walk1 | (dsimp only; walk1) | (leave1; (try dsimp only)) | fail "no step"))
  refine wpC_isTrue_and ?_
  refine wpC_any ?_
  repeat' ((fail_if_success (with_reducible show wpC _ _ _ _ _ _)); (first | (k_unfold; (try dsimp only)) | (k_end; wrow_close) | walk1 | (dsimp only; walk1) | (leave1; (try dsimp only)) | fail "no step"))
  refine wpC_isTrue_and ?_
  refine wpC_isTrue_Compare ?_
  refine wpC_Call_Name ?_
  repeat' ((fail_if_success (with_reducible show wpC _ _ _ _ _ _)); (first | (k_unfold; (try dsimp only)) | (k_end; wrow_close) | walk1 | (dsimp only; walk1) | (leave1; (try dsimp only)) | fail "no step"))
  refine' wpC_callWith_K ?kX ?kI ?_; (case kX => k_asm); (case kI => k_is)
  repeat' ((fail_if_success (with_reducible show wpC _ _ _ _ _ _)); (first | (k_unfold; (try dsimp only)) | (k_end; wrow_close) | walk1 | (dsimp only; walk1) | (leave1; (try dsimp only)) | fail "no step"))
  refine' rq_ok1 ?B ?F ?X ?T ?XB ?TB ?D ?hk ?hd ?hu ?h0 ?h1 ?h2 ?_; (((case B => k_asm); (case F => k_asm); (case X => k_asm); (case T => k_asm); (case XB => k_asm); (case TB => k_asm); (case D => k_asm); (case hk => first | exact rfl | assumption); (case hd => ktr_room); (case hu => ktr_units))); (case h0 => omega); (case h1 => omega); (case h2 => (show _ ≤ (18446744073709551616 : Int); omega))
  ((intro h9 t9 k9 hb9; (try dsimp only); (obtain ⟨g9, T9, F9, N9, B9, X9, P9, D9⟩ := turn_after (k := hb9) (by k_asm) (by k_asm) (by k_asm) (by k_asm) (by k_asm) (by k_asm)); clear hb9; (first | (replace T9 := KtsTurn.trans (by with_reducible assumption) T9) | skip); (try k_lift B9); (try k_sweep)))
  repeat' ((fail_if_success (with_reducible show wpC _ _ _ _ _ _)); (first | (k_unfold; (try dsimp only)) | (k_end; wrow_close) | walk1 | (dsimp only; walk1) | (leave1; (try dsimp only)) | fail "no step"))
  refine wpC_execs_nil ?_
  refine wpC_execs ?_
  refine wpC_If ?_
  refine wpC_isTrue_and ?_
  refine wpC_any ?_
  repeat' ((fail_if_success (with_reducible show wpC _ _ _ _ _ _)); (first | (k_unfold; (try dsimp only)) | (k_end; wrow_close) | walk1 | (dsimp only; walk1) | (leave1; (try dsimp only)) | fail "no step"))
  refine wpC_isTrue_and ?_
  refine wpC_isTrue_or ?_
  refine wpC_isTrue_Compare ?_
  refine wpC_Call_Name ?_
  repeat' ((fail_if_success (with_reducible show wpC _ _ _ _ _ _)); (first | (k_unfold; (try dsimp only)) | (k_end; wrow_close) | walk1 | (dsimp only; walk1) | (leave1; (try dsimp only)) | fail "no step"))
  refine' wpC_callWith_K ?kX ?kI ?_; (case kX => k_asm); (case kI => k_is)
  repeat' ((fail_if_success (with_reducible show wpC _ _ _ _ _ _)); (first | (k_unfold; (try dsimp only)) | (k_end; wrow_close) | walk1 | (dsimp only; walk1) | (leave1; (try dsimp only)) | fail "no step"))
  refine' rq_short1 ?B ?F ?X ?T ?XB ?TB ?D ?hk ?hd ?hu ?h0 ?h1 ?_; (((case B => k_asm); (case F => k_asm); (case X => k_asm); (case T => k_asm); (case XB => k_asm); (case TB => k_asm); (case D => k_asm); (case hk => first | exact rfl | assumption); (case hd => ktr_room); (case hu => ktr_units))); (case h0 => assumption); (case h1 => assumption)
  ((intro h9 t9 k9 hb9; (try dsimp only); (obtain ⟨g9, T9, F9, N9, B9, X9, P9, D9⟩ := turn_after (k := hb9) (by k_asm) (by k_asm) (by k_asm) (by k_asm) (by k_asm) (by k_asm)); clear hb9; (first | (replace T9 := KtsTurn.trans (by with_reducible assumption) T9) | skip); (try k_lift B9); (try k_sweep)))
  repeat' ((fail_if_success (with_reducible show wpC _ _ _ _ _ _)); (first | (k_unfold; (try dsimp only)) | (k_end; wrow_close) | walk1 | (dsimp only; walk1) | (leave1; (try dsimp only)) | fail "no step"))
  refine wpC_isTrue_or ?_
  refine wpC_isTrue_Compare ?_
  refine wpC_Call_Name ?_
  repeat' ((fail_if_success (with_reducible show wpC _ _ _ _ _ _)); (first | (k_unfold; (try dsimp only)) | (k_end; wrow_close) | walk1 | (dsimp only; walk1) | (leave1; (try dsimp only)) | fail "no step"))
  refine' wpC_callWith_K ?kX ?kI ?_; (case kX => k_asm); (case kI => k_is)
  repeat' ((fail_if_success (with_reducible show wpC _ _ _ _ _ _)); (first | (k_unfold; (try dsimp only)) | (k_end; wrow_close) | walk1 | (dsimp only; walk1) | (leave1; (try dsimp only)) | fail "no step"))
  refine' rq_big1 ?B ?F ?X ?T ?XB ?TB ?D ?hk ?hd ?hu ?h0 ?h1 ?h2 ?h3 ?_; (((case B => k_asm); (case F => k_asm); (case X => k_asm); (case T => k_asm); (case XB => k_asm); (case TB => k_asm); (case D => k_asm); (case hk => first | exact rfl | assumption); (case hd => ktr_room); (case hu => ktr_units))); (case h0 => omega); (case h1 => omega); (case h2 => omega); (case h3 => omega)
  ((intro h9 t9 k9 hb9; (try dsimp only); (obtain ⟨g9, T9, F9, N9, B9, X9, P9, D9⟩ := turn_after (k := hb9) (by k_asm) (by k_asm) (by k_asm) (by k_asm) (by k_asm) (by k_asm)); clear hb9; (first | (replace T9 := KtsTurn.trans (by with_reducible assumption) T9) | skip); (try k_lift B9); (try k_sweep)))
  repeat' ((fail_if_success (with_reducible show wpC _ _ _ _ _ _)); (first | (k_unfold; (try dsimp only)) | (k_end; wrow_close) | walk1 | (dsimp only; walk1) | (leave1; (try dsimp only)) | fail "no step"))
  refine wpC_isTrue_or ?_
  refine wpC_isTrue_Compare ?_
  refine wpC_Call_Name ?_
  repeat' ((fail_if_success (with_reducible show wpC _ _ _ _ _ _)); (first | (k_unfold; (try dsimp only)) | (k_end; wrow_close) | walk1 | (dsimp only; walk1) | (leave1; (try dsimp only)) | fail "no step"))
  refine' wpC_callWith_K ?kX ?kI ?_; (case kX => k_asm); (case kI => k_is)
  repeat' ((fail_if_success (with_reducible show wpC _ _ _ _ _ _)); (first | (k_unfold; (try dsimp only)) | (k_end; wrow_close) | walk1 | (dsimp only; walk1) | (leave1; (try dsimp only)) | fail "no step"))
  refine' rq_ok1 ?B ?F ?X ?T ?XB ?TB ?D ?hk ?hd ?hu ?h0 ?h1 ?h2 ?_; (((case B => k_asm); (case F => k_asm); (case X => k_asm); (case T => k_asm); (case XB => k_asm); (case TB => k_asm); (case D => k_asm); (case hk => first | exact rfl | assumption); (case hd => ktr_room); (case hu => ktr_units))); (case h0 => omega); (case h1 => omega); (case h2 => omega)
  ((intro h9 t9 k9 hb9; (try dsimp only); (obtain ⟨g9, T9, F9, N9, B9, X9, P9, D9⟩ := turn_after (k := hb9) (by k_asm) (by k_asm) (by k_asm) (by k_asm) (by k_asm) (by k_asm)); clear hb9; (first | (replace T9 := KtsTurn.trans (by with_reducible assumption) T9) | skip); (try k_lift B9); (try k_sweep)))
  repeat' ((fail_if_success (with_reducible show wpC _ _ _ _ _ _)); (first | (k_unfold; (try dsimp only)) | (k_end; wrow_close) | walk1 | (dsimp only; walk1) | (leave1; (try dsimp only)) | fail "no step"))
  refine wpC_isTrue_or_nil ?_
  repeat' ((fail_if_success (with_reducible show wpC _ _ _ _ _ _)); (first | (k_unfold; (try dsimp only)) | (k_end; wrow_close) | walk1 | (dsimp only; walk1) | (leave1; (try dsimp only)) | fail "no step"))
  refine wpC_execs_nil ?_
  refine wpC_execs_nil ?_
  refine wpC_execs_nil ?_
  refine' forC_turn (c := L' + 1) (L := L') ?fl ?fx ?fp ?fF ?fN ?fI ?fc ?fh ?fk ?_; (case fl => exact rfl); (case fx => exact rfl); (case fp => exact rfl); (case fF => k_asm); (case fN => k_asm); (case fI => k_mem); (case fc => k_mem); (case fh => assumption); (case fk => decide)
  intro h9 t9 k9 F9 N9; (try k_sweep)
  refine wpC_execs ?_
  refine wpC_If ?_
  refine wpC_any ?_
  repeat' ((fail_if_success (with_reducible show wpC _ _ _ _ _ _)); (first | (k_unfold; (try dsimp only)) | (k_end; wrow_close) | walk1 | (dsimp only; walk1) | (leave1; (try dsimp only)) | fail "no step"))
  refine wpC_execs ?_
  refine wpC_any ?_
  repeat' ((fail_if_success (with_reducible show wpC _ _ _ _ _ _)); (first | (k_unfold; (try dsimp only)) | (k_end; wrow_close) | walk1 | (dsimp only; walk1) | (leave1; (try dsimp only)) | fail "no step"))
  refine wpC_execs ?_
  refine wpC_any ?_
  repeat' ((fail_if_success (with_reducible show wpC _ _ _ _ _ _)); (first | (k_unfold; (try dsimp only)) | (k_end; wrow_close) | walk1 | (dsimp only; walk1) | (leave1; (try dsimp only)) | fail "no step"))
  refine wpC_execs ?_
  refine wpC_If ?_
  refine wpC_isTrue_and ?_
  refine wpC_any ?_
  repeat' ((fail_if_success (with_reducible show wpC _ _ _ _ _ _)); (first | (k_unfold; (try dsimp only)) | (k_end; wrow_close) | walk1 | (dsimp only; walk1) | (leave1; (try dsimp only)) | fail "no step"))
  refine wpC_isTrue_and ?_
  refine wpC_any ?_
  repeat' ((fail_if_success (with_reducible show wpC _ _ _ _ _ _)); (first | (k_unfold; (try dsimp only)) | (k_end; wrow_close) | walk1 | (dsimp only; walk1) | (leave1; (try dsimp only)) | fail "no step"))
  refine wpC_isTrue_and ?_
  refine wpC_isTrue_Compare ?_
  refine wpC_Call_Name ?_
  repeat' ((fail_if_success (with_reducible show wpC _ _ _ _ _ _)); (first | (k_unfold; (try dsimp only)) | (k_end; wrow_close) | walk1 | (dsimp only; walk1) | (leave1; (try dsimp only)) | fail "no step"))
  refine' wpC_callWith_K ?kX ?kI ?_; (case kX => k_asm); (case kI => k_is)
  repeat' ((fail_if_success (with_reducible show wpC _ _ _ _ _ _)); (first | (k_unfold; (try dsimp only)) | (k_end; wrow_close) | walk1 | (dsimp only; walk1) | (leave1; (try dsimp only)) | fail "no step"))
  refine' rq_small2 ?B ?F ?X ?T ?XB ?TB ?D ?hk ?hd ?hu ?h0 ?h1 ?h2 ?_; (((case B => k_asm); (case F => k_asm); (case X => k_asm); (case T => k_asm); (case XB => k_asm); (case TB => k_asm); (case D => k_asm); (case hk => first | exact rfl | assumption); (case hd => ktr_room); (case hu => ktr_units))); (case h0 => omega); (case h1 => omega); (case h2 => (show (0 : Int) ≤ 18446744073709551616; decide))
  ((intro h9 t9 k9 hb9; (try dsimp only); (obtain ⟨g9, T9, F9, N9, B9, X9, P9, D9⟩ := turn_after (k := hb9) (by k_asm) (by k_asm) (by k_asm) (by k_asm) (by k_asm) (by k_asm)); clear hb9; (first | (replace T9 := KtsTurn.trans (by with_reducible assumption) T9) | skip); (try k_lift B9); (try k_sweep)))
  repeat' ((fail_if_success (with_reducible show wpC _ _ _ _ _ _)); (first | (k_unfold; (try dsimp only)) | (k_end; wrow_close) | walk1 | (dsimp only; walk1) | (leave1; (try dsimp only)) | fail "no step"))
  refine wpC_execs_nil ?_
  refine wpC_execs ?_
  refine wpC_If ?_
  refine wpC_isTrue_and ?_
  refine wpC_any ?_
  repeat' ((fail_if_success (with_reducible show wpC _ _ _ _ _ _)); (first | (k_unfold; (try dsimp only)) | (k_end; wrow_close) | walk1 | (dsimp only; walk1) | (leave1; (try dsimp only)) | fail "no step"))
  refine wpC_execs_nil ?_
  refine wpC_execs_nil ?_
  refine wpC_execs_nil ?_
  refine' forC_turn (c := L' + 1) (L := L') ?fl ?fx ?fp ?fF ?fN ?fI ?fc ?fh ?fk ?_; (case fl => exact rfl); (case fx => exact rfl); (case fp => exact rfl); (case fF => k_asm); (case fN => k_asm); (case fI => k_mem); (case fc => k_mem); (case fh => assumption); (case fk => decide)
  intro h9 t9 k9 F9 N9; (try k_sweep)
  refine wpC_execs ?_
  refine wpC_If ?_
  refine wpC_any ?_
  repeat' ((fail_if_success (with_reducible show wpC _ _ _ _ _ _)); (first | (k_unfold; (try dsimp only)) | (k_end; wrow_close) | walk1 | (dsimp only; walk1) | (leave1; (try dsimp only)) | fail "no step"))
  refine wpC_execs ?_
  refine wpC_any ?_
  repeat' ((fail_if_success (with_reducible show wpC _ _ _ _ _ _)); (first | (k_unfold; (try dsimp only)) | (k_end; wrow_close) | walk1 | (dsimp only; walk1) | (leave1; (try dsimp only)) | fail "no step"))
  refine wpC_execs ?_
  refine wpC_any ?_
  repeat' ((fail_if_success (with_reducible show wpC _ _ _ _ _ _)); (first | (k_unfold; (try dsimp only)) | (k_end; wrow_close) | walk1 | (dsimp only; walk1) | (leave1; (try dsimp only)) | fail "no step"))
  refine wpC_execs ?_
  refine wpC_If ?_
  refine wpC_isTrue_and ?_
  refine wpC_any ?_
  repeat' ((fail_if_success (with_reducible show wpC _ _ _ _ _ _)); (first | (k_unfold; (try dsimp only)) | (k_end; wrow_close) | walk1 | (dsimp only; walk1) | (leave1; (try dsimp only)) | fail "no step"))
  refine wpC_isTrue_and ?_
  refine wpC_any ?_
  repeat' ((fail_if_success (with_reducible show wpC _ _ _ _ _ _)); (first | (k_unfold; (try dsimp only)) | (k_end; wrow_close) | walk1 | (dsimp only; walk1) | (leave1; (try dsimp only)) | fail "no step"))
  refine wpC_isTrue_and ?_
  refine wpC_isTrue_Compare ?_
  refine wpC_Call_Name ?_
  repeat' ((fail_if_success (with_reducible show wpC _ _ _ _ _ _)); (first | (k_unfold; (try dsimp only)) | (k_end; wrow_close) | walk1 | (dsimp only; walk1) | (leave1; (try dsimp only)) | fail "no step"))
  refine' wpC_callWith_K ?kX ?kI ?_; (case kX => k_asm); (case kI => k_is)
  repeat' ((fail_if_success (with_reducible show wpC _ _ _ _ _ _)); (first | (k_unfold; (try dsimp only)) | (k_end; wrow_close) | walk1 | (dsimp only; walk1) | (leave1; (try dsimp only)) | fail "no step"))
  refine' rq_small3 ?B ?F ?X ?T ?XB ?TB ?D ?hk ?hd ?hu ?h0 ?h1 ?h2 ?_; (((case B => k_asm); (case F => k_asm); (case X => k_asm); (case T => k_asm); (case XB => k_asm); (case TB => k_asm); (case D => k_asm); (case hk => first | exact rfl | assumption); (case hd => ktr_room); (case hu => ktr_units))); (case h0 => omega); (case h1 => omega); (case h2 => (show (0 : Int) ≤ 18446744073709551616; decide))
  ((intro h9 t9 k9 hb9; (try dsimp only); (obtain ⟨g9, T9, F9, N9, B9, X9, P9, D9⟩ := turn_after (k := hb9) (by k_asm) (by k_asm) (by k_asm) (by k_asm) (by k_asm) (by k_asm)); clear hb9; (first | (replace T9 := KtsTurn.trans (by with_reducible assumption) T9) | skip); (try k_lift B9); (try k_sweep)))
  repeat' ((fail_if_success (with_reducible show wpC _ _ _ _ _ _)); (first | (k_unfold; (try dsimp only)) | (k_end; wrow_close) | walk1 | (dsimp only; walk1) | (leave1; (try dsimp only)) | fail "no step"))
  refine wpC_execs_nil ?_
  refine wpC_execs ?_
  refine wpC_If ?_
  refine wpC_isTrue_and ?_
  refine wpC_any ?_
  repeat' ((fail_if_success (with_reducible show wpC _ _ _ _ _ _)); (first | (k_unfold; (try dsimp only)) | (k_end; wrow_close) | walk1 | (dsimp only; walk1) | (leave1; (try dsimp only)) | fail "no step"))
  refine wpC_execs_nil ?_
  refine wpC_execs_nil ?_
  refine wpC_execs_nil ?_
  refine' forC_end (c := L' + 1) (L := L') ?fh ?fF ?fN ?fI ?fc ?fq ?fk ?_; (case fh => exact rfl); (case fF => k_asm); (case fN => k_asm); (case fI => k_mem); (case fc => k_mem); (case fq => assumption); (case fk => decide)
  intro h9 F9 N9
  refine wpC_any ?_
  repeat' ((fail_if_success (with_reducible show wpC _ _ _ _ _ _)); (first | (k_unfold; (try dsimp only)) | (k_end; wrow_close) | walk1 | (dsimp only; walk1) | (leave1; (try dsimp only)) | fail "no step"))
  all_goals exact hret _ tn _ (Back.of_turn (by assumption) (by assumption))
set_option maxHeartbeats 1500000 in
theorem ll2 (B : Below A₀ base outer h₀) (F : Fr h₀ L s.heap m) (X : (hd.heap_39 w.params).In h₀) (T : Top hd.view_39 Lz mean mg mb h₀) (XB : (hd.heap_39 w.params).In base) (TB : Top hd.view_39 Lz mean mg mb base) (D : KtsDicts (fsOf outer) h₀) (hk : cs.kind = .function) (hdp : dp + 24 < recursionLimit) (hun : un + 200 < cLine)
    {n : Int} {tn : Tok} (hn : 65536 ≤ n) (hn' : n < 4294967296) (hret : RetT s (L :: fsOf outer) Q fun t => .bool true) :
    wpC (model Challenge.pw_ez0013_01 w) (ktrTop dp un gd cn cs L a ccd cl outer) (call (.ref 746) [.int n tn]) Q E s := by
  have D1 := own_dictsX (cn := cn) (cs := cs) (a := a) (ccd := ccd) (cl := cl) F D
  refine wpC_call ?_
  k_dflt (((refine' code_ownXC (binds := [(Str.ofString "number", Value.int n tn)]) ?k1 ?k2 ?k3 ?k5 ?kA ?kF ?kK ?k6 ?k7 ?k8 ?k9 ?kB ?kD ?_ ?c2 ?c3 ?c4; (case kA => exact rfl); (case kF => exact rfl); (case kK => first | exact rfl | assumption); (case k1 => k_asm); (case k2 => k_asm); (case k3 => k_asm); (case k5 => k_asm); (case k6 => k_is); (case k7 => k_is); (case k8 => ktr_room); (case k9 => first | exact BindsTo.of_eq rfl | exact binds_K (by k_in) rfl (by k_is) rfl rfl rfl); (case kB => exact rfl); (case kD => decide +kernel); (case c2 => exact rfl); (case c3 => exact rfl); (case c4 => exact rfl); k_whole; intro L' h' tk' cells' F' N' Y' B' X' T'; k_cells Y'; (try simp only [List.cons_append, List.nil_append] at N'); (try dsimp only); (try k_lift B'); (try k_fold))))
  refine wpC_execs ?_
  refine wpC_any ?_
  repeat' ((fail_if_success (with_reducible show wpC _ _ _ _ _ _)); (first | (k_unfold; (try dsimp only)) | (k_end; wrow_close) | walk1 | (dsimp only; walk1) | (leave1; (try dsimp only)) | fail "no step"))
  refine wpC_execs ?_
  refine wpC_any ?_
  repeat' ((fail_if_success (with_reducible show wpC _ _ _ _ _ _)); (first | (k_unfold; (try dsimp only)) | (k_end; wrow_close) | walk1 | (dsimp only; walk1) | (leave1; (try dsimp only)) | fail "no step"))
  refine wpC_execs ?_
  refine wpC_any ?_
  repeat' ((fail_if_success (with_reducible show wpC _ _ _ _ _ _)); (first | (k_unfold; (try dsimp only)) | (k_end; wrow_close) | walk1 | (dsimp only; walk1) | (leave1; (try dsimp only)) | fail "no step"))
  refine wpC_execs ?_
  refine wpC_For ?_
  repeat' ((fail_if_success (with_reducible show wpC _ _ _ _ _ _)); (first | (k_unfold; (try dsimp only)) | (k_end; wrow_close) | walk1 | (dsimp only; walk1) | (leave1; (try dsimp only)) | fail "no step"))
  refine' iterC (c := L' + 1) (L := L') (k := 4) ?ir ?is ?ik ?iF ?iN ?ic ?_; (case ir => assumption); (case is => decide); (case ik => rfl); (case iF => k_asm); (case iN => k_asm); (case ic => k_mem)
  intro I9 h9 F9 N9 hI9; (try k_sweep)
  refine' forC_turn (c := L' + 1) (L := L') ?fl ?fx ?fp ?fF ?fN ?fI ?fc ?fh ?fk ?_; (case fl => exact rfl); (case fx => exact rfl); (case fp => exact rfl); (case fF => k_asm); (case fN => k_asm); (case fI => k_mem); (case fc => k_mem); (case fh => assumption); (case fk => decide)
  intro h9 t9 k9 F9 N9; (try k_sweep)
  refine wpC_execs ?_
  refine wpC_If ?_
  refine wpC_any ?_
  repeat' ((fail_if_success (with_reducible show wpC _ _ _ _ _ _)); (first | (k_unfold; (try dsimp only)) | (k_end; wrow_close) | walk1 | (dsimp only; walk1) | (leave1; (try dsimp only)) | fail "no step"))
  refine wpC_execs_nil ?_
  refine wpC_execs_nil ?_
  refine' forC_turn (c := L' + 1) (L := L') ?fl ?fx ?fp ?fF ?fN ?fI ?fc ?fh ?fk ?_; (case fl => exact rfl); (case fx => exact rfl); (case fp => exact rfl); (case fF => k_asm); (case fN => k_asm); (case fI => k_mem); (case fc => k_mem); (case fh => assumption); (case fk => decide)
  intro h9 t9 k9 F9 N9; (try k_sweep)
  refine wpC_execs ?_
  refine wpC_If ?_
  refine wpC_any ?_
  repeat' ((fail_if_success (with_reducible show wpC _ _ _ _ _ _)); (first | (k_unfold; (try dsimp only)) | (k_end; wrow_close) | walk1 | (dsimp only; walk1) | (leave1; (try dsimp only)) | fail "no step"))
  refine wpC_execs_nil ?_
  refine wpC_execs_nil ?_
  refine' forC_turn (c := L' + 1) (L := L') ?fl ?fx ?fp ?fF ?fN ?fI ?fc ?fh ?fk ?_; (case fl => exact rfl); (case fx => exact rfl); (case fp => exact rfl); (case fF => k_asm); (case fN => k_asm); (case fI => k_mem); (case fc => k_mem); (case fh => assumption); (case fk => decide)
  intro h9 t9 k9 F9 N9; (try k_sweep)
  refine wpC_execs ?_
  refine wpC_If ?_
  refine wpC_any ?_
  repeat' ((fail_if_success (with_reducible show wpC _ _ _ _ _ _)); (first | (k_unfold; (try dsimp only)) | (k_end; wrow_close) | walk1 | (dsimp only; walk1) | (leave1; (try dsimp only)) | fail "no step"))
  refine wpC_execs ?_
  refine wpC_any ?_
  repeat' ((fail_if_success (with_reducible show wpC _ _ _ _ _ _)); (first | (k_unfold; (try dsimp only)) | (k_end; wrow_close) | walk1 | (dsimp only; walk1) | (leave1; (try dsimp only)) | fail "no step"))
  refine wpC_execs ?_
  refine wpC_any ?_
  repeat' ((fail_if_success (with_reducible show wpC _ _ _ _ _ _)); (first | (k_unfold; (try dsimp only)) | (k_end; wrow_close) | walk1 | (dsimp only; walk1) | (leave1; (try dsimp only)) | fail "no step"))
  refine wpC_execs ?_
  refine wpC_If ?_
  refine wpC_isTrue_and ?_
  refine wpC_any ?_
  repeat' ((fail_if_success (with_reducible show wpC _ _ _ _ _ _)); (first | (k_unfold; (try dsimp only)) | (k_end; wrow_close) | walk1 | (dsimp only; walk1) | (leave1; (try dsimp only)) | fail "no step"))
  refine wpC_isTrue_and ?_
  refine wpC_any ?_
  repeat' ((fail_if_success (with_reducible show wpC _ _ _ _ _ _)); (first | (k_unfold; (try dsimp only)) | (k_end; wrow_close) | walk1 | (dsimp only; walk1) | (leave1; (try dsimp only)) | fail "no step"))
  refine wpC_isTrue_and ?_
  refine wpC_isTrue_Compare ?_
  refine wpC_Call_Name ?_
  repeat' ((fail_if_success (with_reducible show wpC _ _ _ _ _ _)); (first | (k_unfold; (try dsimp only)) | (k_end; wrow_close) | walk1 | (dsimp only; walk1) | (leave1; (try dsimp only)) | fail "no step"))
  refine' wpC_callWith_K ?kX ?kI ?_; (case kX => k_asm); (case kI => k_is)
  repeat' ((fail_if_success (with_reducible show wpC _ _ _ _ _ _)); (first | (k_unfold; (try dsimp only)) | (k_end; wrow_close) | walk1 | (dsimp only; walk1) | (leave1; (try dsimp only)) | fail "no step"))
  refine' rq_ok2 ?B ?F ?X ?T ?XB ?TB ?D ?hk ?hd ?hu ?h0 ?h1 ?h2 ?_; (((case B => k_asm); (case F => k_asm); (case X => k_asm); (case T => k_asm); (case XB => k_asm); (case TB => k_asm); (case D => k_asm); (case hk => first | exact rfl | assumption); (case hd => ktr_room); (case hu => ktr_units))); (case h0 => omega); (case h1 => omega); (case h2 => (show _ ≤ (18446744073709551616 : Int); omega))
  ((intro h9 t9 k9 hb9; (try dsimp only); (obtain ⟨g9, T9, F9, N9, B9, X9, P9, D9⟩ := turn_after (k := hb9) (by k_asm) (by k_asm) (by k_asm) (by k_asm) (by k_asm) (by k_asm)); clear hb9; (first | (replace T9 := KtsTurn.trans (by with_reducible assumption) T9) | skip); (try k_lift B9); (try k_sweep)))
  repeat' ((fail_if_success (with_reducible show wpC _ _ _ _ _ _)); (first | (k_unfold; (try dsimp only)) | (k_end; wrow_close) | walk1 | (dsimp only; walk1) | (leave1; (try dsimp only)) | fail "no step"))
  refine wpC_execs_nil ?_
  refine wpC_execs ?_
  refine wpC_If ?_
  refine wpC_isTrue_and ?_
  refine wpC_any ?_
  repeat' ((fail_if_success (with_reducible show wpC _ _ _ _ _ _)); (first | (k_unfold; (try dsimp only)) | (k_end; wrow_close) | walk1 | (dsimp only; walk1) | (leave1; (try dsimp only)) | fail "no step"))
  refine wpC_isTrue_and ?_
  refine wpC_isTrue_or ?_
  refine wpC_isTrue_Compare ?_
  refine wpC_Call_Name ?_
  repeat' ((fail_if_success (with_reducible show wpC _ _ _ _ _ _)); (first | (k_unfold; (try dsimp only)) | (k_end; wrow_close) | walk1 | (dsimp only; walk1) | (leave1; (try dsimp only)) | fail "no step"))
  refine' wpC_callWith_K ?kX ?kI ?_; (case kX => k_asm); (case kI => k_is)
  repeat' ((fail_if_success (with_reducible show wpC _ _ _ _ _ _)); (first | (k_unfold; (try dsimp only)) | (k_end; wrow_close) | walk1 | (dsimp only; walk1) | (leave1; (try dsimp only)) | fail "no step"))
  refine' rq_short2 ?B ?F ?X ?T ?XB ?TB ?D ?hk ?hd ?hu ?h0 ?h1 ?_; (((case B => k_asm); (case F => k_asm); (case X => k_asm); (case T => k_asm); (case XB => k_asm); (case TB => k_asm); (case D => k_asm); (case hk => first | exact rfl | assumption); (case hd => ktr_room); (case hu => ktr_units))); (case h0 => assumption); (case h1 => assumption)
  ((intro h9 t9 k9 hb9; (try dsimp only); (obtain ⟨g9, T9, F9, N9, B9, X9, P9, D9⟩ := turn_after (k := hb9) (by k_asm) (by k_asm) (by k_asm) (by k_asm) (by k_asm) (by k_asm)); clear hb9; (first | (replace T9 := KtsTurn.trans (by with_reducible assumption) T9) | skip); (try k_lift B9); (try k_sweep)))
  repeat' ((fail_if_success (with_reducible show wpC _ _ _ _ _ _)); (first | (k_unfold; (try dsimp only)) | (k_end; wrow_close) | walk1 | (dsimp only; walk1) | (leave1; (try dsimp only)) | fail "no step"))
  refine wpC_isTrue_or ?_
  refine wpC_isTrue_Compare ?_
  refine wpC_Call_Name ?_
  repeat' ((fail_if_success (with_reducible show wpC _ _ _ _ _ _)); (first | (k_unfold; (try dsimp only)) | (k_end; wrow_close) | walk1 | (dsimp only; walk1) | (leave1; (try dsimp only)) | fail "no step"))
  refine' wpC_callWith_K ?kX ?kI ?_; (case kX => k_asm); (case kI => k_is)
  repeat' ((fail_if_success (with_reducible show wpC _ _ _ _ _ _)); (first | (k_unfold; (try dsimp only)) | (k_end; wrow_close) | walk1 | (dsimp only; walk1) | (leave1; (try dsimp only)) | fail "no step"))
  refine' rq_big2 ?B ?F ?X ?T ?XB ?TB ?D ?hk ?hd ?hu ?h0 ?h1 ?h2 ?h3 ?_; (((case B => k_asm); (case F => k_asm); (case X => k_asm); (case T => k_asm); (case XB => k_asm); (case TB => k_asm); (case D => k_asm); (case hk => first | exact rfl | assumption); (case hd => ktr_room); (case hu => ktr_units))); (case h0 => omega); (case h1 => omega); (case h2 => omega); (case h3 => omega)
  ((intro h9 t9 k9 hb9; (try dsimp only); (obtain ⟨g9, T9, F9, N9, B9, X9, P9, D9⟩ := turn_after (k := hb9) (by k_asm) (by k_asm) (by k_asm) (by k_asm) (by k_asm) (by k_asm)); clear hb9; (first | (replace T9 := KtsTurn.trans (by with_reducible assumption) T9) | skip); (try k_lift B9); (try k_sweep)))
  repeat' ((fail_if_success (with_reducible show wpC _ _ _ _ _ _)); (first | (k_unfold; (try dsimp only)) | (k_end; wrow_close) | walk1 | (dsimp only; walk1) | (leave1; (try dsimp only)) | fail "no step"))
  refine wpC_isTrue_or ?_
  refine wpC_isTrue_Compare ?_
  refine wpC_Call_Name ?_
  repeat' ((fail_if_success (with_reducible show wpC _ _ _ _ _ _)); (first | (k_unfold; (try dsimp only)) | (k_end; wrow_close) | walk1 | (dsimp only; walk1) | (leave1; (try dsimp only)) | fail "no step"))
  refine' wpC_callWith_K ?kX ?kI ?_; (case kX => k_asm); (case kI => k_is)
  repeat' ((fail_if_success (with_reducible show wpC _ _ _ _ _ _)); (first | (k_unfold; (try dsimp only)) | (k_end; wrow_close) | walk1 | (dsimp only; walk1) | (leave1; (try dsimp only)) | fail "no step"))
  refine' rq_ok2 ?B ?F ?X ?T ?XB ?TB ?D ?hk ?hd ?hu ?h0 ?h1 ?h2 ?_; (((case B => k_asm); (case F => k_asm); (case X => k_asm); (case T => k_asm); (case XB => k_asm); (case TB => k_asm); (case D => k_asm); (case hk => first | exact rfl | assumption); (case hd => ktr_room); (case hu => ktr_units))); (case h0 => omega); (case h1 => omega); (case h2 => omega)
  ((intro h9 t9 k9 hb9; (try dsimp only); (obtain ⟨g9, T9, F9, N9, B9, X9, P9, D9⟩ := turn_after (k := hb9) (by k_asm) (by k_asm) (by k_asm) (by k_asm) (by k_asm) (by k_asm)); clear hb9; (first | (replace T9 := KtsTurn.trans (by with_reducible assumption) T9) | skip); (try k_lift B9); (try k_sweep)))
  repeat' ((fail_if_success (with_reducible show wpC _ _ _ _ _ _)); (first | (k_unfold; (try dsimp only)) | (k_end; wrow_close) | walk1 | (dsimp only; walk1) | (leave1; (try dsimp only)) | fail "no step"))
  refine wpC_isTrue_or_nil ?_
  repeat' ((fail_if_success (with_reducible show wpC _ _ _ _ _ _)); (first | (k_unfold; (try dsimp only)) | (k_end; wrow_close) | walk1 | (dsimp only; walk1) | (leave1; (try dsimp only)) | fail "no step"))
  refine wpC_execs_nil ?_
  refine wpC_execs_nil ?_
  refine wpC_execs_nil ?_
  refine' forC_turn (c := L' + 1) (L := L') ?fl ?fx ?fp ?fF ?fN ?fI ?fc ?fh ?fk ?_; (case fl => exact rfl); (case fx => exact rfl); (case fp => exact rfl); (case fF => k_asm); (case fN => k_asm); (case fI => k_mem); (case fc => k_mem); (case fh => assumption); (case fk => decide)
  intro h9 t9 k9 F9 N9; (try k_sweep)
  refine wpC_execs ?_
  refine wpC_If ?_
  refine wpC_any ?_
  repeat' ((fail_if_success (with_reducible show wpC _ _ _ _ _ _)); (first | (k_unfold; (try dsimp only)) | (k_end; wrow_close) | walk1 | (dsimp only; walk1) | (leave1; (try dsimp only)) | fail "no step"))
  refine wpC_execs ?_
  refine wpC_any ?_
  repeat' ((fail_if_success (with_reducible show wpC _ _ _ _ _ _)); (first | (k_unfold; (try dsimp only)) | (k_end; wrow_close) | walk1 | (dsimp only; walk1) | (leave1; (try dsimp only)) | fail "no step"))
  refine wpC_execs ?_
  refine wpC_any ?_
  repeat' ((fail_if_success (with_reducible show wpC _ _ _ _ _ _)); (first | (k_unfold; (try dsimp only)) | (k_end; wrow_close) | walk1 | (dsimp only; walk1) | (leave1; (try dsimp only)) | fail "no step"))
  refine wpC_execs ?_
  refine wpC_If ?_
  refine wpC_isTrue_and ?_
  refine wpC_any ?_
  repeat' ((fail_if_success (with_reducible show wpC _ _ _ _ _ _)); (first | (k_unfold; (try dsimp only)) | (k_end; wrow_close) | walk1 | (dsimp only; walk1) | (leave1; (try dsimp only)) | fail "no step"))
  refine wpC_isTrue_and ?_
  refine wpC_any ?_
  repeat' ((fail_if_success (with_reducible show wpC _ _ _ _ _ _)); (first | (k_unfold; (try dsimp only)) | (k_end; wrow_close) | walk1 | (dsimp only; walk1) | (leave1; (try dsimp only)) | fail "no step"))
  refine wpC_isTrue_and ?_
  refine wpC_isTrue_Compare ?_
  refine wpC_Call_Name ?_
  repeat' ((fail_if_success (with_reducible show wpC _ _ _ _ _ _)); (first | (k_unfold; (try dsimp only)) | (k_end; wrow_close) | walk1 | (dsimp only; walk1) | (leave1; (try dsimp only)) | fail "no step"))
  refine' wpC_callWith_K ?kX ?kI ?_; (case kX => k_asm); (case kI => k_is)
  repeat' ((fail_if_success (with_reducible show wpC _ _ _ _ _ _)); (first | (k_unfold; (try dsimp only)) | (k_end; wrow_close) | walk1 | (dsimp only; walk1) | (leave1; (try dsimp only)) | fail "no step"))
  refine' rq_small3 ?B ?F ?X ?T ?XB ?TB ?D ?hk ?hd ?hu ?h0 ?h1 ?h2 ?_; (((case B => k_asm); (case F => k_asm); (case X => k_asm); (case T => k_asm); (case XB => k_asm); (case TB => k_asm); (case D => k_asm); (case hk => first | exact rfl | assumption); (case hd => ktr_room); (case hu => ktr_units))); (case h0 => omega); (case h1 => omega); (case h2 => (show (0 : Int) ≤ 18446744073709551616; decide))
  ((intro h9 t9 k9 hb9; (try dsimp only); (obtain ⟨g9, T9, F9, N9, B9, X9, P9, D9⟩ := turn_after (k := hb9) (by k_asm) (by k_asm) (by k_asm) (by k_asm) (by k_asm) (by k_asm)); clear hb9; (first | (replace T9 := KtsTurn.trans (by with_reducible assumption) T9) | skip); (try k_lift B9); (try k_sweep)))
  repeat' ((fail_if_success (with_reducible show wpC _ _ _ _ _ _)); (first | (k_unfold; (try dsimp only)) | (k_end; wrow_close) | walk1 | (dsimp only; walk1) | (leave1; (try dsimp only)) | fail "no step"))
  refine wpC_execs_nil ?_
  refine wpC_execs ?_
  refine wpC_If ?_
  refine wpC_isTrue_and ?_
  refine wpC_any ?_
  repeat' ((fail_if_success (with_reducible show wpC _ _ _ _ _ _)); (first | (k_unfold; (try dsimp only)) | (k_end; wrow_close) | walk1 | (dsimp only; walk1) | (leave1; (try dsimp only)) | fail "no step"))
  refine wpC_execs_nil ?_
  refine wpC_execs_nil ?_
  refine wpC_execs_nil ?_
  refine' forC_end (c := L' + 1) (L := L') ?fh ?fF ?fN ?fI ?fc ?fq ?fk ?_; (case fh => exact rfl); (case fF => k_asm); (case fN => k_asm); (case fI => k_mem); (case fc => k_mem); (case fq => assumption); (case fk => decide)
  intro h9 F9 N9
  refine wpC_any ?_
  repeat' ((fail_if_success (with_reducible show wpC _ _ _ _ _ _)); (first | (k_unfold; (try dsimp only)) | (k_end; wrow_close) | walk1 | (dsimp only; walk1) | (leave1; (try dsimp only)) | fail "no step"))
  all_goals exact hret _ tn _ (Back.of_turn (by assumption) (by assumption))
set_option maxHeartbeats 1500000 in
theorem ll3 (B : Below A₀ base outer h₀) (F : Fr h₀ L s.heap m) (X : (hd.heap_39 w.params).In h₀) (T : Top hd.view_39 Lz mean mg mb h₀) (XB : (hd.heap_39 w.params).In base) (TB : Top hd.view_39 Lz mean mg mb base) (D : KtsDicts (fsOf outer) h₀) (hk : cs.kind = .function) (hdp : dp + 24 < recursionLimit) (hun : un + 200 < cLine)
    {n : Int} {tn : Tok} (hn : 4294967296 ≤ n) (hn' : n < 18446744073709551616) (hret : RetT s (L :: fsOf outer) Q fun t => .bool true) :
    wpC (model Challenge.pw_ez0013_01 w) (ktrTop dp un gd cn cs L a ccd cl outer) (call (.ref 746) [.int n tn]) Q E s := by
  have D1 := own_dictsX (cn := cn) (cs := cs) (a := a) (ccd := ccd) (cl := cl) F D
  refine wpC_call ?_
  k_dflt (((refine' code_ownXC (binds := [(Str.ofString "number", Value.int n tn)]) ?k1 ?k2 ?k3 ?k5 ?kA ?kF ?kK ?k6 ?k7 ?k8 ?k9 ?kB ?kD ?_ ?c2 ?c3 ?c4; (case kA => exact rfl); (case kF => exact rfl); (case kK => first | exact rfl | assumption); (case k1 => k_asm); (case k2 => k_asm); (case k3 => k_asm); (case k5 => k_asm); (case k6 => k_is); (case k7 => k_is); (case k8 => ktr_room); (case k9 => first | exact BindsTo.of_eq rfl | exact binds_K (by k_in) rfl (by k_is) rfl rfl rfl); (case kB => exact rfl); (case kD => decide +kernel); (case c2 => exact rfl); (case c3 => exact rfl); (case c4 => exact rfl); k_whole; intro L' h' tk' cells' F' N' Y' B' X' T'; k_cells Y'; (try simp only [List.cons_append, List.nil_append] at N'); (try dsimp only); (try k_lift B'); (try k_fold))))
  refine wpC_execs ?_
  refine wpC_any ?_
  repeat' ((fail_if_success (with_reducible show wpC _ _ _ _ _ _)); (first | (k_unfold; (try dsimp only)) | (k_end; wrow_close) | walk1 | (dsimp only; walk1) | (leave1; (try dsimp only)) | fail "no step"))
  refine wpC_execs ?_
  refine wpC_any ?_
  repeat' ((fail_if_success (with_reducible show wpC _ _ _ _ _ _)); (first | (k_unfold; (try dsimp only)) | (k_end; wrow_close) | walk1 | (dsimp only; walk1) | (leave1; (try dsimp only)) | fail "no step"))
  refine wpC_execs ?_
  refine wpC_any ?_
  repeat' ((fail_if_success (with_reducible show wpC _ _ _ _ _ _)); (first | (k_unfold; (try dsimp only)) | (k_end; wrow_close) | walk1 | (dsimp only; walk1) | (leave1; (try dsimp only)) | fail "no step"))
  refine wpC_execs ?_
  refine wpC_For ?_
  repeat' ((fail_if_success (with_reducible show wpC _ _ _ _ _ _)); (first | (k_unfold; (try dsimp only)) | (k_end; wrow_close) | walk1 | (dsimp only; walk1) | (leave1; (try dsimp only)) | fail "no step"))
  refine' iterC (c := L' + 1) (L := L') (k := 4) ?ir ?is ?ik ?iF ?iN ?ic ?_; (case ir => assumption); (case is => decide); (case ik => rfl); (case iF => k_asm); (case iN => k_asm); (case ic => k_mem)
  intro I9 h9 F9 N9 hI9; (try k_sweep)
  refine' forC_turn (c := L' + 1) (L := L') ?fl ?fx ?fp ?fF ?fN ?fI ?fc ?fh ?fk ?_; (case fl => exact rfl); (case fx => exact rfl); (case fp => exact rfl); (case fF => k_asm); (case fN => k_asm); (case fI => k_mem); (case fc => k_mem); (case fh => assumption); (case fk => decide)
  intro h9 t9 k9 F9 N9; (try k_sweep)
  refine wpC_execs ?_
  refine wpC_If ?_
  refine wpC_any ?_
  repeat' ((fail_if_success (with_reducible show wpC _ _ _ _ _ _)); (first | (k_unfold; (try dsimp only)) | (k_end; wrow_close) | walk1 | (dsimp only; walk1) | (leave1; (try dsimp only)) | fail "no step"))
  refine wpC_execs_nil ?_
  refine wpC_execs_nil ?_
  refine' forC_turn (c := L' + 1) (L := L') ?fl ?fx ?fp ?fF ?fN ?fI ?fc ?fh ?fk ?_; (case fl => exact rfl); (case fx => exact rfl); (case fp => exact rfl); (case fF => k_asm); (case fN => k_asm); (case fI => k_mem); (case fc => k_mem); (case fh => assumption); (case fk => decide)
  intro h9 t9 k9 F9 N9; (try k_sweep)
  refine wpC_execs ?_
  refine wpC_If ?_
  refine wpC_any ?_
  repeat' ((fail_if_success (with_reducible show wpC _ _ _ _ _ _)); (first | (k_unfold; (try dsimp only)) | (k_end; wrow_close) | walk1 | (dsimp only; walk1) | (leave1; (try dsimp only)) | fail "no step"))
  refine wpC_execs_nil ?_
  refine wpC_execs_nil ?_
  refine' forC_turn (c := L' + 1) (L := L') ?fl ?fx ?fp ?fF ?fN ?fI ?fc ?fh ?fk ?_; (case fl => exact rfl); (case fx => exact rfl); (case fp => exact rfl); (case fF => k_asm); (case fN => k_asm); (case fI => k_mem); (case fc => k_mem); (case fh => assumption); (case fk => decide)
  intro h9 t9 k9 F9 N9; (try k_sweep)
  refine wpC_execs ?_
  refine wpC_If ?_
  refine wpC_any ?_
  repeat' ((fail_if_success (with_reducible show wpC _ _ _ _ _ _)); (first | (k_unfold; (try dsimp only)) | (k_end; wrow_close) | walk1 | (dsimp only; walk1) | (leave1; (try dsimp only)) | fail "no step"))
  refine wpC_execs_nil ?_
  refine wpC_execs_nil ?_
  refine' forC_turn (c := L' + 1) (L := L') ?fl ?fx ?fp ?fF ?fN ?fI ?fc ?fh ?fk ?_; (case fl => exact rfl); (case fx => exact rfl); (case fp => exact rfl); (case fF => k_asm); (case fN => k_asm); (case fI => k_mem); (case fc => k_mem); (case fh => assumption); (case fk => decide)
  intro h9 t9 k9 F9 N9; (try k_sweep)
  refine wpC_execs ?_
  refine wpC_If ?_
  refine wpC_any ?_
  repeat' ((fail_if_success (with_reducible show wpC _ _ _ _ _ _)); (first | (k_unfold; (try dsimp only)) | (k_end; wrow_close) | walk1 | (dsimp only; walk1) | (leave1; (try dsimp only)) | fail "no step"))
  refine wpC_execs ?_
  refine wpC_any ?_
  repeat' ((fail_if_success (with_reducible show wpC _ _ _ _ _ _)); (first | (k_unfold; (try dsimp only)) | (k_end; wrow_close) | walk1 | (dsimp only; walk1) | (leave1; (try dsimp only)) | fail "no step"))
  refine wpC_execs ?_
  refine wpC_any ?_
  repeat' ((fail_if_success (with_reducible show wpC _ _ _ _ _ _)); (first | (k_unfold; (try dsimp only)) | (k_end; wrow_close) | walk1 | (dsimp only; walk1) | (leave1; (try dsimp only)) | fail "no step"))
  refine wpC_execs ?_
  refine wpC_If ?_
  refine wpC_isTrue_and ?_
  refine wpC_any ?_
  repeat' ((fail_if_success (with_reducible show wpC _ _ _ _ _ _)); (first | (k_unfold; (try dsimp only)) | (k_end; wrow_close) | walk1 | (dsimp only; walk1) | (leave1; (try dsimp only)) | fail "no step"))
  refine wpC_isTrue_and ?_
  refine wpC_any ?_
  repeat' ((fail_if_success (with_reducible show wpC _ _ _ _ _ _)); (first | (k_unfold; (try dsimp only)) | (k_end; wrow_close) | walk1 | (dsimp only; walk1) | (leave1; (try dsimp only)) | fail "no step"))
  refine wpC_isTrue_and ?_
  refine wpC_isTrue_Compare ?_
  refine wpC_Call_Name ?_
  repeat' ((fail_if_success (with_reducible show wpC _ _ _ _ _ _)); (first | (k_unfold; (try dsimp only)) | (k_end; wrow_close) | walk1 | (dsimp only; walk1) | (leave1; (try dsimp only)) | fail "no step"))
  refine' wpC_callWith_K ?kX ?kI ?_; (case kX => k_asm); (case kI => k_is)
  repeat' ((fail_if_success (with_reducible show wpC _ _ _ _ _ _)); (first | (k_unfold; (try dsimp only)) | (k_end; wrow_close) | walk1 | (dsimp only; walk1) | (leave1; (try dsimp only)) | fail "no step"))
  refine' rq_ok3 ?B ?F ?X ?T ?XB ?TB ?D ?hk ?hd ?hu ?h0 ?h1 ?h2 ?_; (((case B => k_asm); (case F => k_asm); (case X => k_asm); (case T => k_asm); (case XB => k_asm); (case TB => k_asm); (case D => k_asm); (case hk => first | exact rfl | assumption); (case hd => ktr_room); (case hu => ktr_units))); (case h0 => omega); (case h1 => omega); (case h2 => (show _ ≤ (18446744073709551616 : Int); omega))
  ((intro h9 t9 k9 hb9; (try dsimp only); (obtain ⟨g9, T9, F9, N9, B9, X9, P9, D9⟩ := turn_after (k := hb9) (by k_asm) (by k_asm) (by k_asm) (by k_asm) (by k_asm) (by k_asm)); clear hb9; (first | (replace T9 := KtsTurn.trans (by with_reducible assumption) T9) | skip); (try k_lift B9); (try k_sweep)))
  repeat' ((fail_if_success (with_reducible show wpC _ _ _ _ _ _)); (first | (k_unfold; (try dsimp only)) | (k_end; wrow_close) | walk1 | (dsimp only; walk1) | (leave1; (try dsimp only)) | fail "no step"))
  refine wpC_execs_nil ?_
  refine wpC_execs ?_
  refine wpC_If ?_
  refine wpC_isTrue_and ?_
  refine wpC_any ?_
  repeat' ((fail_if_success (with_reducible show wpC _ _ _ _ _ _)); (first | (k_unfold; (try dsimp only)) | (k_end; wrow_close) | walk1 | (dsimp only; walk1) | (leave1; (try dsimp only)) | fail "no step"))
  refine wpC_isTrue_and ?_
  refine wpC_isTrue_or ?_
  refine wpC_isTrue_Compare ?_
  refine wpC_Call_Name ?_
  repeat' ((fail_if_success (with_reducible show wpC _ _ _ _ _ _)); (first | (k_unfold; (try dsimp only)) | (k_end; wrow_close) | walk1 | (dsimp only; walk1) | (leave1; (try dsimp only)) | fail "no step"))
  refine' wpC_callWith_K ?kX ?kI ?_; (case kX => k_asm); (case kI => k_is)
  repeat' ((fail_if_success (with_reducible show wpC _ _ _ _ _ _)); (first | (k_unfold; (try dsimp only)) | (k_end; wrow_close) | walk1 | (dsimp only; walk1) | (leave1; (try dsimp only)) | fail "no step"))
  refine' rq_short3 ?B ?F ?X ?T ?XB ?TB ?D ?hk ?hd ?hu ?h0 ?h1 ?_; (((case B => k_asm); (case F => k_asm); (case X => k_asm); (case T => k_asm); (case XB => k_asm); (case TB => k_asm); (case D => k_asm); (case hk => first | exact rfl | assumption); (case hd => ktr_room); (case hu => ktr_units))); (case h0 => assumption); (case h1 => assumption)
  ((intro h9 t9 k9 hb9; (try dsimp only); (obtain ⟨g9, T9, F9, N9, B9, X9, P9, D9⟩ := turn_after (k := hb9) (by k_asm) (by k_asm) (by k_asm) (by k_asm) (by k_asm) (by k_asm)); clear hb9; (first | (replace T9 := KtsTurn.trans (by with_reducible assumption) T9) | skip); (try k_lift B9); (try k_sweep)))
  repeat' ((fail_if_success (with_reducible show wpC _ _ _ _ _ _)); (first | (k_unfold; (try dsimp only)) | (k_end; wrow_close) | walk1 | (dsimp only; walk1) | (leave1; (try dsimp only)) | fail "no step"))
  refine wpC_isTrue_or ?_
  refine wpC_isTrue_Compare ?_
  refine wpC_Call_Name ?_
  repeat' ((fail_if_success (with_reducible show wpC _ _ _ _ _ _)); (first | (k_unfold; (try dsimp only)) | (k_end; wrow_close) | walk1 | (dsimp only; walk1) | (leave1; (try dsimp only)) | fail "no step"))
  refine' wpC_callWith_K ?kX ?kI ?_; (case kX => k_asm); (case kI => k_is)
  repeat' ((fail_if_success (with_reducible show wpC _ _ _ _ _ _)); (first | (k_unfold; (try dsimp only)) | (k_end; wrow_close) | walk1 | (dsimp only; walk1) | (leave1; (try dsimp only)) | fail "no step"))
  refine' rq_big3 ?B ?F ?X ?T ?XB ?TB ?D ?hk ?hd ?hu ?h0 ?h1 ?h2 ?h3 ?_; (((case B => k_asm); (case F => k_asm); (case X => k_asm); (case T => k_asm); (case XB => k_asm); (case TB => k_asm); (case D => k_asm); (case hk => first | exact rfl | assumption); (case hd => ktr_room); (case hu => ktr_units))); (case h0 => omega); (case h1 => omega); (case h2 => omega); (case h3 => omega)
  ((intro h9 t9 k9 hb9; (try dsimp only); (obtain ⟨g9, T9, F9, N9, B9, X9, P9, D9⟩ := turn_after (k := hb9) (by k_asm) (by k_asm) (by k_asm) (by k_asm) (by k_asm) (by k_asm)); clear hb9; (first | (replace T9 := KtsTurn.trans (by with_reducible assumption) T9) | skip); (try k_lift B9); (try k_sweep)))
  repeat' ((fail_if_success (with_reducible show wpC _ _ _ _ _ _)); (first | (k_unfold; (try dsimp only)) | (k_end; wrow_close) | walk1 | (dsimp only; walk1) | (leave1; (try dsimp only)) | fail "no step"))
  refine wpC_isTrue_or ?_
  refine wpC_isTrue_Compare ?_
  refine wpC_Call_Name ?_
  repeat' ((fail_if_success (with_reducible show wpC _ _ _ _ _ _)); (first | (k_unfold; (try dsimp only)) | (k_end; wrow_close) | walk1 | (dsimp only; walk1) | (leave1; (try dsimp only)) | fail "no step"))
  refine' wpC_callWith_K ?kX ?kI ?_; (case kX => k_asm); (case kI => k_is)
  repeat' ((fail_if_success (with_reducible show wpC _ _ _ _ _ _)); (first | (k_unfold; (try dsimp only)) | (k_end; wrow_close) | walk1 | (dsimp only; walk1) | (leave1; (try dsimp only)) | fail "no step"))
  refine' rq_ok3 ?B ?F ?X ?T ?XB ?TB ?D ?hk ?hd ?hu ?h0 ?h1 ?h2 ?_; (((case B => k_asm); (case F => k_asm); (case X => k_asm); (case T => k_asm); (case XB => k_asm); (case TB => k_asm); (case D => k_asm); (case hk => first | exact rfl | assumption); (case hd => ktr_room); (case hu => ktr_units))); (case h0 => omega); (case h1 => omega); (case h2 => omega)
  ((intro h9 t9 k9 hb9; (try dsimp only); (obtain ⟨g9, T9, F9, N9, B9, X9, P9, D9⟩ := turn_after (k := hb9) (by k_asm) (by k_asm) (by k_asm) (by k_asm) (by k_asm) (by k_asm)); clear hb9; (first | (replace T9 := KtsTurn.trans (by with_reducible assumption) T9) | skip); (try k_lift B9); (try k_sweep)))
  repeat' ((fail_if_success (with_reducible show wpC _ _ _ _ _ _)); (first | (k_unfold; (try dsimp only)) | (k_end; wrow_close) | walk1 | (dsimp only; walk1) | (leave1; (try dsimp only)) | fail "no step"))
  refine wpC_isTrue_or_nil ?_
  repeat' ((fail_if_success (with_reducible show wpC _ _ _ _ _ _)); (first | (k_unfold; (try dsimp only)) | (k_end; wrow_close) | walk1 | (dsimp only; walk1) | (leave1; (try dsimp only)) | fail "no step"))
  refine wpC_execs_nil ?_
  refine wpC_execs_nil ?_
  refine wpC_execs_nil ?_
  refine' forC_end (c := L' + 1) (L := L') ?fh ?fF ?fN ?fI ?fc ?fq ?fk ?_; (case fh => exact rfl); (case fF => k_asm); (case fN => k_asm); (case fI => k_mem); (case fc => k_mem); (case fq => assumption); (case fk => decide)
  intro h9 F9 N9
  refine wpC_any ?_
  repeat' ((fail_if_success (with_reducible show wpC _ _ _ _ _ _)); (first | (k_unfold; (try dsimp only)) | (k_end; wrow_close) | walk1 | (dsimp only; walk1) | (leave1; (try dsimp only)) | fail "no step"))
  all_goals exact hret _ tn _ (Back.of_turn (by assumption) (by assumption))
theorem ll (B : Below A₀ base outer h₀) (F : Fr h₀ L s.heap m) (X : (hd.heap_39 w.params).In h₀) (T : Top hd.view_39 Lz mean mg mb h₀) (XB : (hd.heap_39 w.params).In base) (TB : Top hd.view_39 Lz mean mg mb base) (D : KtsDicts (fsOf outer) h₀) (hk : cs.kind = .function) (hdp : dp + 24 < recursionLimit) (hun : un + 200 < cLine)
    {n : Int} {tn : Tok} (hn : 0 ≤ n) (hn' : n < 18446744073709551616) (hret : RetT s (L :: fsOf outer) Q fun t => .bool true) :
    wpC (model Challenge.pw_ez0013_01 w) (ktrTop dp un gd cn cs L a ccd cl outer) (call (.ref 746) [.int n tn]) Q E s := by
  by_cases h1 : n < 253
  · exact ll0 B F X T XB TB D hk hdp hun hn h1 hret
  by_cases h2 : n < 256
  · exact ll1a B F X T XB TB D hk hdp hun (by omega) h2 hret
  by_cases h3 : n < 65536
  · exact ll1b B F X T XB TB D hk hdp hun (by omega) h3 hret
  by_cases h4 : n < 4294967296
  · exact ll2 B F X T XB TB D hk hdp hun (by omega) h4 hret
  · exact ll3 B F X T XB TB D hk hdp hun (by omega) hn' hret
end
end Mine

end
section
open PySem PySem.W PySem.Calls PyProof.Rows
namespace Mine
set_option maxRecDepth 100000
local macro_rules | `(tactic| cell_enter) => `(tactic| (refine' code_own ?k1 ?k2 ?k3 ?k5 ?kA ?kF ?kK ?k6 ?k7 ?k8 ?k9 ?kB ?_ ?c2 ?c3 ?c4 ?c5; (case kA => exact rfl); (case kF => exact rfl); (case kK => first | exact rfl | assumption); (case k1 => k_asm); (case k2 => k_asm); (case k3 => k_asm); (case k5 => k_asm); (case k6 => k_is); (case k7 => k_is); (case k8 => ktr_room); (case k9 => first | exact BindsTo.of_eq rfl | exact binds_K (by k_in) rfl (by k_is) rfl rfl rfl); (case c5 => decide); (case kB => exact locs rfl); (case c2 => exact rfl); (case c3 => exact rfl); (case c4 => exact rfl); k_whole; intro L' h' F' N' B' X' T'; (try dsimp only); (try k_lift B'); (try k_fold)))
local macro_rules | `(tactic| walk_at "call type:bytes") => `(tactic| ((with_reducible show wpAny _ _ (call (Value.type "bytes") [Value.bytes _ _]) _ _ _); (refine bytes_of_bytes ?_)))
local macro_rules | `(tactic| k_room) => `(tactic| ktr_room)
local macro_rules | `(tactic| walk_at "call builtin:len") => `(tactic| ((with_reducible show wpAny _ _ (call (Value.builtin "len") [Value.bytes _ _]) _ _ _); (refine len_bytes_at (by assumption) (by omega) ?_); intro _ _))
local macro_rules | `(tactic| walk_at "truthy bytes") => `(tactic| ((with_reducible show wpAny _ _ (truthy (Value.bytes _ _)) _ _ _); (refine truthy_bytes_at (by assumption) (by omega) ?_); intro _))
local macro_rules | `(tactic| walk_at "subscriptTail") => `(tactic| ((with_reducible show wpAny _ _ (subscriptTail _ (Expr.Slice _ _ none _) (Value.bytes _ _) (Value.ref _)) _ _ _); (with_reducible rename Fr _ _ _ _ => F'); (with_reducible rename News _ _ _ _ => N'); (refine slice_B (s := ⟨_, _, _, _, _⟩) F' N' (by constructor) (by constructor) (by omega) ?_); intro h' t' k' c' F' N' hS' hZ'; (dsimp only [Option.elim] at hS'); (dsimp only [Option.elim] at hZ'); (try simp only [List.drop_zero, Nat.sub_zero] at hS'); (try simp only [Nat.sub_zero, clipAt_nat] at hZ'); (try k_sweep)))
local macro_rules | `(tactic| walk_at "binaryOp Mult bytes int") => `(tactic| ((with_reducible show wpAny _ _ (binaryOp Operator.Mult (Value.bytes _ _) (Value.int _ _)) _ _ _); (refine mul_B (by omega) ?n0 ?n1 ?_; (case n0 => first | omega | (simp only [Int.fdiv_eq_ediv_of_nonneg _ (by decide : (0 : Int) ≤ 8)]; omega)); (case n1 => first | omega | (simp only [Int.fdiv_eq_ediv_of_nonneg _ (by decide : (0 : Int) ≤ 8)]; omega))); intro t' k' c' hS' hZ'; (try simp only [Int.fdiv_eq_ediv_of_nonneg _ (by decide : (0 : Int) ≤ 8)] at hZ')))
local macro_rules | `(tactic| walk_at "binaryOp Add bytes bytes") => `(tactic| ((with_reducible show wpAny _ _ (binaryOp Operator.Add (Value.bytes _ _) (Value.bytes _ _)) _ _ _); (refine add_B (by omega) ?_); intro t' k' c' hS' hZ'))
local macro_rules | `(tactic| walk_at "call builtin:len") => `(tactic| ((with_reducible show wpAny _ _ (call (Value.builtin "len") [Value.bytes _ _]) _ _ _); first | ((refine len_bytes_at (by assumption) (by omega) ?_); intro _ _) | ((refine len_B (by omega) ?_); intro _ _)))
local macro_rules | `(tactic| walk_at "call ref") => `(tactic| ((with_reducible show wpAny _ _ (call (Value.ref _) [Value.bytes _ _, Value.str _ _]) _ _ _); k_dflt (refine call_fb_big (by k_asm) (by k_mem) (by omega) ?_); intro _ _))
local macro_rules | `(tactic| walk_at "call type:type") => `(tactic| ((with_reducible show wpAny _ _ (call (Value.type "type") [Value.bytes _ _]) _ _ _); refine call_type_of (Tx := "bytes") (PySem.W.typeIs_bytes _ _ _) (by decide +kernel) ?_))
local macro_rules | `(tactic| walk_at "exec Raise some none") => `(tactic| ((with_reducible show wpAny _ _ (exec (Stmt.Raise (some (Expr.Call (Expr.Name _ _) (_ :: _) [] _)) none _) _) _ _ _); k_dflt (first
  | (refine' Raise_own2 ?F ?g ?O PySem.F.excBase_Exception ?n PySem.F.excBase_ValueError ?h ?_ ?a ?b ?c ?d ?e; (case F => k_asm); (case g => exact TopRead.g (by k_asm)); (case O => exact own_of_in (by k_asm) (by k_asm) (by k_is) (by k_exc)); (case n => rfl); (case h => first | rfl | assumption); (case a => rfl); (case b => rfl); (case c => rfl); (case d => rfl); (case e => decide); k_whole)
  | (refine' Raise_own2 ?F ?g ?O PySem.F.excBase_Exception ?n PySem.F.excBase_TypeError ?h ?_ ?a ?b ?c ?d ?e; (case F => k_asm); (case g => exact TopRead.g (by k_asm)); (case O => exact own_of_in (by k_asm) (by k_asm) (by k_is) (by k_exc)); (case n => rfl); (case h => first | rfl | assumption); (case a => rfl); (case b => rfl); (case c => rfl); (case d => rfl); (case e => decide); k_whole))))
local macro_rules | `(tactic| walk_at "getMethod type:int") => `(tactic| (with_reducible (refine' fast_fb ?kfbF ?kfbN ?kfbX ?_; (case kfbF => k_asm); (case kfbN => k_asm); (case kfbX => k_asm); k_whole); intro x' h' F' N' l1; (try k_lt l1); (try k_sweep)))
local macro_rules | `(tactic| walk_at "eval Name") => `(tactic| (first
  | ((name_kind "local"); (with_reducible refine' fastL ?xF ?xl ?xv ?xk ?xd ?_); (case xl => decide +kernel); (case xF => k_asm); (case xk => first | exact rfl | assumption); (case xd => kernel_rfl); (case xv => k_dflt (exact rfl)); k_whole)
  | ((name_kind "globalImplicit"); (with_reducible refine' fastG ?xF ?xl ?xX ?xT ?xe ?xk ?xd ?_); (case xl => decide +kernel); (case xF => k_asm); (case xX => k_asm); (case xT => k_asm); (case xe => k_dflt k_is); (case xk => first | exact rfl | assumption); (case xd => kernel_rfl); k_whole)
  | ((name_kind "globalImplicit"); name_is_builtin; (with_reducible refine' fastB ?xF ?xl ?xX ?xT ?xe ?xv ?xn ?xk ?xd ?_); (case xl => kernel_rfl); (case xF => k_asm); (case xX => k_asm); (case xT => k_asm); (case xe => k_dflt k_is); (case xv => k_dflt (first | boot_fast | boot_by_name)); (case xn => decide); (case xk => first | exact rfl | assumption); (case xd => kernel_rfl); k_whole)
  | ((name_kind "local"); (with_reducible refine' fastXL ?xF ?xl ?xv ?xk ?xd ?_); (case xl => decide +kernel); (case xF => k_asm); (case xk => first | exact rfl | assumption); (case xd => kernel_rfl); (case xv => k_dflt (exact rfl)); k_whole)
  | ((name_kind "cell"); (with_reducible refine' fastXC ?xN ?xl ?xc ?xm ?xo ?xk ?xd ?_); (case xl => decide +kernel); (case xN => k_asm); (case xc => k_dflt (exact rfl)); (case xm => k_dflt k_mem); (case xo => k_dflt k_asm); (case xk => first | exact rfl | assumption); (case xd => kernel_rfl); k_whole)
  | ((name_kind "globalImplicit"); (with_reducible refine' fastXG ?xF ?xl ?xX ?xT ?xe ?xk ?xd ?_); (case xl => decide +kernel); (case xF => k_asm); (case xX => k_asm); (case xT => k_asm); (case xe => k_dflt k_is); (case xk => first | exact rfl | assumption); (case xd => kernel_rfl); k_whole)
  | ((name_kind "globalImplicit"); name_is_builtin; (with_reducible refine' fastXB ?xF ?xl ?xX ?xT ?xe ?xv ?xn ?xk ?xd ?_); (case xl => kernel_rfl); (case xF => k_asm); (case xX => k_asm); (case xT => k_asm); (case xe => k_dflt k_is); (case xv => k_dflt (first | boot_fast | boot_by_name)); (case xn => decide); (case xk => first | exact rfl | assumption); (case xd => kernel_rfl); k_whole)
  | ((name_kind "local"); (with_reducible refine' fastYL ?xF ?xl ?xv ?xk ?xd ?_); (case xl => decide +kernel); (case xF => k_asm); (case xk => first | exact rfl | assumption); (case xd => kernel_rfl); (case xv => k_dflt (exact rfl)); k_whole)
  | ((name_kind "cell"); (with_reducible refine' fastYC ?xN ?xl ?xc ?xm ?xo ?xk ?xd ?_); (case xl => decide +kernel); (case xN => k_asm); (case xc => k_dflt (exact rfl)); (case xm => k_dflt k_mem); (case xo => k_dflt k_asm); (case xk => first | exact rfl | assumption); (case xd => kernel_rfl); k_whole)
  | ((name_kind "globalImplicit"); (with_reducible refine' fastYG ?xF ?xl ?xX ?xT ?xe ?xk ?xd ?_); (case xl => decide +kernel); (case xF => k_asm); (case xX => k_asm); (case xT => k_asm); (case xe => k_dflt k_is); (case xk => first | exact rfl | assumption); (case xd => kernel_rfl); k_whole)
  | ((name_kind "globalImplicit"); name_is_builtin; (with_reducible refine' fastYB ?xF ?xl ?xX ?xT ?xe ?xv ?xn ?xk ?xd ?_); (case xl => kernel_rfl); (case xF => k_asm); (case xX => k_asm); (case xT => k_asm); (case xe => k_dflt k_is); (case xv => k_dflt (first | boot_fast | boot_by_name)); (case xn => decide); (case xk => first | exact rfl | assumption); (case xd => kernel_rfl); k_whole)
  | ((name_kind "local"); (with_reducible refine' fastCL ?xN ?xl ?xm ?xo ?xv ?xk ?xd ?_); (case xl => decide +kernel); (case xN => k_asm); (case xm => k_dflt k_mem); (case xo => assumption); (case xv => assumption); (case xk => exact rfl); (case xd => kernel_rfl); k_whole)
  | ((name_kind "free"); (with_reducible refine' fastCF ?xN ?xl ?xe ?xs ?xc ?xm ?xo ?xk ?xd ?_); (case xl => decide +kernel); (case xe => kernel_rfl); (case xs => kernel_rfl); (case xN => k_asm); (case xc => k_dflt (exact rfl)); (case xm => k_dflt k_mem); (case xo => k_dflt k_asm); (case xk => exact rfl); (case xd => kernel_rfl); k_whole)
  | ((name_kind "free"); (with_reducible refine' fastCY ?xN ?xl ?xe ?xs ?xc ?xm ?xo ?xk ?xd ?_); (case xl => decide +kernel); (case xe => kernel_rfl); (case xs => kernel_rfl); (case xN => k_asm); (case xc => k_dflt (exact rfl)); (case xm => k_dflt k_mem); (case xo => k_dflt k_asm); (case xk => exact rfl); (case xd => kernel_rfl); k_whole)
  | ((name_kind "globalImplicit"); (with_reducible refine' fastCG ?xF ?xl ?xX ?xT ?xe ?xg ?xk ?xd ?_); (case xl => decide +kernel); (case xF => k_asm); (case xX => k_asm); (case xT => k_asm); (case xe => k_dflt k_is); (case xg => k_dflt (exact rfl)); (case xk => exact rfl); (case xd => kernel_rfl); k_whole)
  | ((name_kind "globalImplicit"); name_is_builtin; (with_reducible refine' fastCB ?xF ?xl ?xX ?xT ?xe ?xv ?xn ?xg ?xb ?xk ?xd ?_); (case xl => kernel_rfl); (case xF => k_asm); (case xX => k_asm); (case xT => k_asm); (case xe => k_dflt k_is); (case xv => k_dflt (first | boot_fast | boot_by_name)); (case xn => decide); (case xg => k_dflt (exact rfl)); (case xb => k_dflt (exact rfl)); (case xk => exact rfl); (case xd => kernel_rfl); k_whole)))
local macro_rules | `(tactic| walk_at "call ref") => `(tactic| ((with_reducible show wpAny _ _ (call (Value.ref 66) _) _ _ _); k_dflt (first
  | (refine' bfo1 ?B ?F ?X ?T ?hk ?hd ?hu ?_)
  | (refine' bfo2 ?B ?F ?X ?T ?hk ?hd ?hu ?hz ?_; (case hz => assumption))); (case B => k_asm); (case F => k_asm); (case X => k_asm); (case T => k_asm); (case hk => first | exact rfl | assumption); (case hd => ktr_room); (case hu => ktr_units); (intro h9 t9 k9 hk9); (have F9 := Fr.keeps (by k_asm) hk9); (have N9 := News.grown (by k_asm) hk9); clear hk9; (try k_sweep)))
local macro_rules | `(tactic| walk_at "binaryOp FloorDiv int int") => `(tactic| ((with_reducible show wpAny _ _ (binaryOp Operator.FloorDiv (Value.int _ _) (Value.int (256 ^ _) _)) _ _ _); (refine floordiv_int (p256_ne _) ?_ (Or.inl (np256 (by omega))))))
local macro_rules | `(tactic| walk_at "callWith builtin:int.to_bytes") => `(tactic| ((with_reducible show wpAny _ _ (callWith _ (Value.builtin _) _ _ (backToKw _ _)) _ _ _); k_dflt (refine callWith_little (P := fun _ => True) keeper_builtin ?_)))
local macro_rules | `(tactic| walk_at "callWith ref") => `(tactic| ((with_reducible show wpAny _ _ (callWith _ (Value.ref _) _ _ (backToKw _ _)) _ _ _); k_dflt (refine callWith_little (P := KFB.StandsAt _) keeper_bound ?_)))
local macro_rules | `(tactic| walk_at "call builtin:int.to_bytes") => `(tactic| ((with_reducible show wpAny _ _ (call (Value.builtin _) _ (kwLittle _)) _ _ _); k_dflt (first | (refine tb_low (k := 2) ?h0 ?h1 (by decide) ?_; (case h0 => omega); (case h1 => omega)) | (refine tb_low (k := 4) ?h0 ?h1 (by decide) ?_; (case h0 => omega); (case h1 => omega)) | (refine tb_low (k := 8) ?h0 ?h1 (by decide) ?_; (case h0 => omega); (case h1 => omega))); intro t8 k8))
local macro_rules | `(tactic| walk_at "call ref") => `(tactic| ((with_reducible show wpAny _ _ (call (Value.ref _) _ (kwLittle _)) _ _ _); k_dflt (refine call_fb_little (by k_asm) (by k_mem) (by omega) ?_); intro _ _))
local macro_rules | `(tactic| walk_at "call builtin:len") => `(tactic| ((with_reducible show wpAny _ _ (call (Value.builtin "len") [Value.ref _]) _ _ _); k_dflt (refine len_baK (by k_asm) (by k_mem) (by omega) ?_); intro _ _))
local macro_rules | `(tactic| walk_at "call type:bytes") => `(tactic| ((with_reducible show wpAny _ _ (call (Value.type "bytes") [Value.ref _]) _ _ _); k_dflt (refine bytes_baK (by k_asm) (by k_mem) (by omega) ?_); intro _ _))
local macro_rules | `(tactic| walk_at "subscriptTail") => `(tactic| ((with_reducible show wpAny _ _ (subscriptTail _ (Expr.Slice _ _ none _) (Value.ref _) (Value.ref _)) _ _ _); (with_reducible rename Fr _ _ _ _ => F'); (with_reducible rename News _ _ _ _ => N'); k_dflt (refine cut_K (s := ⟨_, _, _, _, _⟩) F' N' (by k_mem) (by omega) (by omega) (by omega) (by omega) ?_); intro r' h' c' F' N' l1 hS' hZ'; (try k_lt l1); (try k_sweep)))
local macro_rules | `(tactic| walk_at "subscriptTail") => `(tactic| ((with_reducible show wpAny _ _ (subscriptTail _ (Expr.Constant (Const.int 0) _ _) (Value.bytes _ _) (Value.int _ _)) _ _ _); k_dflt (refine item0_at (by assumption) (by omega) (by omega) (by omega) (by omega) (by assumption) ?_); intro _))
local macro_rules | `(tactic| walk_at "call ref") => `(tactic| ((with_reducible show wpAny _ _ (call (Value.ref _) _ (kwLittle _)) _ _ _); k_dflt (first | refine fbl_at (kk := 2) (by k_asm) (by k_mem) (by assumption) (by omega) (by omega) (by assumption) (by omega) (by omega) (by omega) ?_ | refine fbl_at (kk := 4) (by k_asm) (by k_mem) (by assumption) (by omega) (by omega) (by assumption) (by omega) (by omega) (by omega) ?_ | refine fbl_at (kk := 8) (by k_asm) (by k_mem) (by assumption) (by omega) (by omega) (by assumption) (by omega) (by omega) (by omega) ?_); intro _ _))
local macro_rules | `(tactic| walk_at "truthy bytes") => `(tactic| ((with_reducible show wpAny _ _ (truthy (Value.bytes #[] _)) _ _ _); (refine empty_truthy ?_); intro _))
local macro_rules | `(tactic| k_enter) => `(tactic| ((fail_if_success k_inElt); (refine' code_def ?k1 ?k2 ?k3 ?k4 ?k5 ?kA ?kF ?kK ?k6 ?k7 ?k8 ?k9 ?kB ?_ ?c2 ?c3 ?c4 ?c5; (case kA => exact rfl); (case kF => exact rfl); (case kK => first | exact rfl | assumption); (case k1 => k_asm); (case k2 => k_asm); (case k3 => k_asm); (case k4 => k_asm); (case k5 => k_asm); (case k6 => k_is); (case k7 => k_is); (case k8 => k_room); (case k9 => refine' binds_as ?kb1 ?kb2; (case kb1 => first | exact BindsTo.of_eq rfl | exact binds_K (by k_in) rfl (by k_is) rfl rfl rfl); (case kb2 => (conv => arg 1; whnf); (repeat (apply same_cons; (focus ((conv => arg 1; arg 1; whnf); (try dsimp only); exact same_rfl)); (focus ((conv => arg 1; arg 1; whnf); (try dsimp only); exact same_rfl)); (conv => arg 1; whnf))); exact same_nil)); (case c5 => decide); (case kB => exact locs rfl); (case c2 => exact rfl); (case c3 => exact rfl); (case c4 => exact rfl); k_whole; intro g' L' h' FG' F' N' B' X' T'; (try dsimp only); (try k_lift B'); (try k_fold))))
local macro_rules | `(tactic| walk_at "call ref") => `(tactic| ((with_reducible show wpAny _ _ (call (Value.ref 741) _) _ _ _); (refine told_intro ?_)))
local macro_rules | `(tactic| walk_at "call ref") => `(tactic| ((with_reducible show wpAny _ _ (call (Value.ref 734) _) _ _ _); (refine told_intro ?_)))
local macro_rules | `(tactic| walk_at "call ref") => `(tactic| ((with_reducible show wpAny _ _ (call (Value.ref 727) _) _ _ _); (refine told_intro ?_)))
local macro_rules | `(tactic| walk_at "call ref") => `(tactic| ((with_reducible show wpAny _ _ (call (Value.ref 701) _) _ _ _); (refine told_intro ?_)))
local macro_rules | `(tactic| walk_at "call ref") => `(tactic| ((with_reducible show wpAny _ _ (call (Value.ref 694) _) _ _ _); (refine told_intro ?_)))
local macro_rules | `(tactic| walk_at "subscriptTail") => `(tactic| ((with_reducible show wpAny _ _ (subscriptTail _ (Expr.Name _ _) (Value.bytes _ _) (Value.int _ _)) _ _ _); k_dflt (refine item_at (by omega) (by omega) (by omega) ?_); intro _))
local macro_rules | `(tactic| walk_at "subscriptTail") => `(tactic| ((with_reducible show wpAny _ _ (subscriptTail _ (Expr.BinOp _ _ _ _) (Value.bytes _ _) (Value.int (Int.fmod _ 8) _)) _ _ _); k_dflt (refine item_at (Int.fmod_nonneg_of_pos _ (by decide)) (fmod8 (by assumption)) (by omega) ?_); intro _))
local macro_rules | `(tactic| walk_at "call type:bytes") => `(tactic| ((with_reducible show wpAny _ _ (call (Value.type "bytes") [Value.ref _]) _ _ _); k_dflt (refine' bytes_K ?bkF ?bkN ?bkl ?bki (xor_in _ _ _ _) ?bkz ?bkh ?_; (case bkF => k_asm); (case bkN => k_asm); (case bkl => exact News.isList (by k_asm) (by k_mem)); (case bki => with_reducible assumption); (case bkz => rw [IntsAre.length (by with_reducible assumption), List.length_map, rangeKs_length, sizeLine_eq]; omega); (case bkh => exact rfl)); intro h' t' k' F' N' _; (try k_sweep)))
local macro_rules | `(tactic| walk_at "call ref") => `(tactic| ((with_reducible show wpAny _ _ (call (Value.ref 694) [_, _, _]) _ _ _); k_dflt (refine' obf3 ?B ?F ?X ?T ?hk ?hdl ?hul ?hz ?hdz ?ho ?_; (case B => k_asm); (case F => k_asm); (case X => k_asm); (case T => k_asm); (case hk => exact rfl); (case hdl => decide); (case hul => decide); (case hz => assumption); (case hdz => first | assumption | omega | (rw [maskB_size]; first | assumption | omega)); (case ho => omega)); (intro h9 t9 k9 hk9); (try dsimp only); (have F9 := Fr.keeps (by k_asm) hk9); (have N9 := News.grown (by k_asm) hk9); clear hk9; (try k_sweep)))
local macro_rules | `(tactic| walk_at "call ref") => `(tactic| ((with_reducible show wpAny _ _ (call (Value.ref 694) [_, _]) _ _ _); k_dflt (refine' obf2 ?B ?F ?X ?T ?hk ?hdl ?hul ?hz ?hdz ?_; (case B => k_asm); (case F => k_asm); (case X => k_asm); (case T => k_asm); (case hk => exact rfl); (case hdl => decide); (case hul => decide); (case hz => assumption); (case hdz => first | assumption | omega | (rw [maskB_size]; first | assumption | omega))); (intro h9 t9 k9 hk9); (try dsimp only); (have F9 := Fr.keeps (by k_asm) hk9); (have N9 := News.grown (by k_asm) hk9); clear hk9; (try k_sweep)))
local macro_rules | `(tactic| walk_at "ite") => `(tactic| ((with_reducible show if (@bne (List UInt8) _ _ _) = true then _ else _); k_dflt (refine ite_bneLL (by first | exact rfl | assumption) ?_)))
local macro_rules | `(tactic| walk_at "binaryOp Add bytes bytes") => `(tactic| ((with_reducible show wpAny _ _ (binaryOp Operator.Add (Value.bytes (maskB _ _ _) _) (Value.bytes (maskB _ _ _) _)) _ _ _); (refine split_add (by with_reducible assumption) (by with_reducible assumption) (by with_reducible assumption) (by with_reducible assumption) (by with_reducible assumption) ?_); intro _ _))
local macro_rules | `(tactic| walk_at "call ref") => `(tactic| ((with_reducible show wpAny _ _ (call (Value.ref 701) _) _ _ _); k_dflt (refine' sk ?B ?F ?X ?T ?hk ?hdl ?hul ?hz ?_; (case B => k_asm); (case F => k_asm); (case X => k_asm); (case T => k_asm); (case hk => exact rfl); (case hdl => decide); (case hul => decide); (case hz => assumption)); (intro h9 t9 k9 hk9); (try dsimp only); (have F9 := Fr.keeps (by k_asm) hk9); (have N9 := News.grown (by k_asm) hk9); clear hk9; (try k_sweep)))
local macro_rules | `(tactic| walk_at "binaryOp Add bytes bytes") => `(tactic| ((with_reducible show wpAny _ _ (binaryOp Operator.Add (Value.bytes #[_] _) (Value.bytes _ _)) _ _ _); (refine key_add (by omega) ?_); intro _ _))
local macro_rules | `(tactic| walk_at "call ref") => `(tactic| ((with_reducible show wpAny _ _ (call (Value.ref 741) _) _ _ _); k_dflt (refine' ma_neg ?B ?F ?X ?T ?XB ?TB ?D ?hk ?hdl ?hul ?hdz ?hz ?_; (case B => k_asm); (case F => k_asm); (case X => k_asm); (case T => k_asm); (case hk => exact rfl); (case hdl => decide); (case hul => decide); (case XB => k_asm); (case TB => k_asm); (case D => assumption); (case hz => assumption); (case hdz => assumption)); (((intro h9 t9 k9 hb9); (try dsimp only); (obtain ⟨F9, N9⟩ := law_back (by k_asm) (by k_asm) hb9); clear hb9; (try k_sweep)))))
local macro_rules | `(tactic| walk_at "call ref") => `(tactic| ((with_reducible show wpAny _ _ (call (Value.ref 741) _) _ _ _); k_dflt (refine' ma_kind (to := 0) ?B ?F ?X ?T ?XB ?TB ?D ?hk ?hdl ?hul ?hdz ?hz ?_; (case B => k_asm); (case F => k_asm); (case X => k_asm); (case T => k_asm); (case hk => exact rfl); (case hdl => decide); (case hul => decide); (case XB => k_asm); (case TB => k_asm); (case D => assumption); (case hz => assumption); (case hdz => assumption)); (((intro h9 t9 k9 hb9); (try dsimp only); (obtain ⟨F9, N9⟩ := law_back (by k_asm) (by k_asm) hb9); clear hb9; (try k_sweep)))))
local macro_rules | `(tactic| walk_at "call ref") => `(tactic| ((with_reducible show wpAny _ _ (call (Value.ref 741) _) _ _ _); k_dflt (refine' ma_short ?B ?F ?X ?T ?XB ?TB ?D ?hk ?hdl ?hul ?hdz ?hz ?_; (case B => k_asm); (case F => k_asm); (case X => k_asm); (case T => k_asm); (case hk => exact rfl); (case hdl => decide); (case hul => decide); (case XB => k_asm); (case TB => k_asm); (case D => assumption); (case hz => omega); (case hdz => assumption)); (((intro h9 t9 k9 hb9); (try dsimp only); (obtain ⟨F9, N9⟩ := law_back (by k_asm) (by k_asm) hb9); clear hb9; (try k_sweep)))))
local macro_rules | `(tactic| walk_at "call ref") => `(tactic| ((with_reducible show wpAny _ _ (call (Value.ref 734) [Value.int 18446744073709551616 _]) _ _ _); k_dflt (refine' wr_big ?B ?F ?X ?T ?XB ?TB ?D ?hk ?hdl ?hul ?_; (case B => k_asm); (case F => k_asm); (case X => k_asm); (case T => k_asm); (case hk => exact rfl); (case hdl => decide); (case hul => decide); (case XB => k_asm); (case TB => k_asm); (case D => assumption)); (((intro h9 t9 k9 hb9); (try dsimp only); (obtain ⟨F9, N9⟩ := law_back (by k_asm) (by k_asm) hb9); clear hb9; (try k_sweep)))))
local macro_rules | `(tactic| walk_at "call ref") => `(tactic| ((with_reducible show wpAny _ _ (call (Value.ref 734) [Value.int _ _]) _ _ _); k_dflt (refine' wr_neg ?B ?F ?X ?T ?XB ?TB ?D ?hk ?hdl ?hul ?_; (case B => k_asm); (case F => k_asm); (case X => k_asm); (case T => k_asm); (case hk => exact rfl); (case hdl => decide); (case hul => decide); (case XB => k_asm); (case TB => k_asm); (case D => assumption)); (((intro h9 t9 k9 hb9); (try dsimp only); (obtain ⟨F9, N9⟩ := law_back (by k_asm) (by k_asm) hb9); clear hb9; (try k_sweep)))))
local macro_rules | `(tactic| walk_at "call ref") => `(tactic| ((with_reducible show wpAny _ _ (call (Value.ref 734) [Value.bool _]) _ _ _); k_dflt (refine' wr_kind ?B ?F ?X ?T ?XB ?TB ?D ?hk ?hdl ?hul ?_; (case B => k_asm); (case F => k_asm); (case X => k_asm); (case T => k_asm); (case hk => exact rfl); (case hdl => decide); (case hul => decide); (case XB => k_asm); (case TB => k_asm); (case D => assumption)); (((intro h9 t9 k9 hb9); (try dsimp only); (obtain ⟨F9, N9⟩ := law_back (by k_asm) (by k_asm) hb9); clear hb9; (try k_sweep)))))
local macro_rules | `(tactic| walk_at "binaryOp Add bytes bytes") => `(tactic| ((with_reducible show wpAny _ _ (binaryOp Operator.Add (Value.bytes (keyB _) _) (Value.bytes _ _)) _ _ _); (refine more_add (by assumption) (by decide) ?_); intro _ _ _ _ _))
local macro_rules | `(tactic| walk_at "binaryOp Add bytes bytes") => `(tactic| ((with_reducible show wpAny _ _ (binaryOp Operator.Add (Value.bytes #[_, _, _] _) (Value.bytes _ _)) _ _ _); (refine add3 (by omega) ?_); intro _ _))
local macro_rules | `(tactic| walk_at "binaryOp Pow int int") => `(tactic| ((with_reducible show wpAny _ _ (binaryOp Operator.Pow (Value.int 2 _) (Value.int 64 _)) _ _ _); k_dflt (refine pow_int_small (by decide) (by decide) (by decide) ?_)))
local macro_rules | `(tactic| walk_at "ite") => `(tactic| (k_closed; with_reducible (first | (refine' iteBT ?hIte ?_; (case hIte => decide +kernel)) | (refine' iteBF ?hIte ?_; (case hIte => decide +kernel)))))
local macro_rules | `(tactic| walk_at "ite") => `(tactic| with_reducible (first | refine iteTT ?_ | refine iteFT ?_ | refine iteNeS ?_ | refine iteEqS ?_))
set_option maxHeartbeats 20000000 in
theorem law_walk : PySem.Challenge.rw_ez0013_01.Holds := by
  refine hd ?_
  k_fill
  intro w s₀ s₁ mg mb G Y fa o pm cd doc dV kV ho hd' hcd hD hmg hg args vals as hpre hlay hrd hwl hlo
  have KX := kIn_of Y
  have X := (Ground.X G).1
  have V := (Ground.X G).2
  refine Ground.open G ?_
  intro T B D TE TW
  try (refine guard_noD D (by decide +kernel) ?_; clear D)
  obtain ⟨_, _, M⟩ := bmod_of_top T
  have TA := at_of_top T
  try (obtain ⟨_, _, he, B0⟩ := based_of_top T rfl hmg ho hd'; have he' : cd = _ := he; subst he'; clear he)
  clear hmg
  wrow_args hpre hlay hrd hwl hlo
  have heA := Dflts.none hD rfl
  subst heA
  have heB := Dflts.noKw hD
  subst heB
  dsimp only at hd' hcd
  refine wpC_call ?_
  refine' code_topC ho hd' hcd (Top.nolimit T) ?room ?bind ?kind ?nd ?_ ?c1 ?c2 ?c3
  (case room => decide)
  (case bind => exact BindsTo.of_eq rfl)
  (case kind => exact rfl)
  (case nd => decide +kernel)
  (case c1 => exact rfl)
  (case c2 => exact rfl)
  (case c3 => exact rfl)
  clear hd' TA
  k_whole
  intro L' h' tk' cells' F' N' Y'
  k_cells Y'
  (try simp only [List.cons_append, List.nil_append] at N')
  (try dsimp only)
  replace F' := fr_script F'
  have BC := below_caller s₁.heap
  have D0 : KtsDicts (fsOf []) s₁.heap := fun b hb => by cases hb
  have TL : Top hd.view_39 Lz _ mg mb s₁.heap := T
  (try k_fold)
  refine wpC_execs ?_
  refine wpC_any ?_
  repeat' ((fail_if_success (with_reducible show wpC _ _ _ _ _ _)); (first | (k_unfold; (try dsimp only)) | (k_end; wrow_close) | walk1 | (dsimp only; walk1) | (leave1; (try dsimp only)) | fail "no step"))
  refine wpC_cut (fun s' => Told (∃ (h : Heap) (k : Nat) (D S : Addr) (ys : List Value) (zs : List Int) (n : Int) (t : Tok) (o1 o2 o3 o4 : Obj) (v2 v3 v4 : Option Value), s' = ⟨h, s₁.gens, s₁.drawn, k, s₁.os⟩ ∧ Fr s₁.heap L' h (fun z => if z = Str.ofString "numbers" then some (.ref D) else if z = Str.ofString "script" then some (.ref S) else none) ∧
    News s₁.heap L' h [(D, LCg.lst ys), (L' + 1 + 1 + 1 + 1, o4), (L' + 1 + 1 + 1, o3), (L' + 1 + 1, o2), (L' + 1, o1)] ∧ IntsAre ys zs ∧ (∀ z ∈ zs, 0 ≤ z) ∧ zs.length ≤ 16 ∧ 0 ≤ n ∧ o1.data = Data.cell (some (.int n t)) ∧ o2.data = Data.cell v2 ∧ o3.data = Data.cell v3 ∧ o4.data = Data.cell v4 ∧
    (@Ne Nat (L' + 1 + 1 + 1 + 1) D ∧ @Ne Nat (L' + 1 + 1 + 1) D ∧ @Ne Nat (L' + 1 + 1) D ∧ @Ne Nat (L' + 1) D))) ?_ ?_
  · refine wpC_any ?_
    repeat' ((fail_if_success (with_reducible show wpC _ _ _ _ _ _)); (first | (k_unfold; (try dsimp only)) | (k_end; wrow_close) | walk1 | (dsimp only; walk1) | (leave1; (try dsimp only)) | fail "no step"))
    all_goals
      unfold Told
      refine ⟨_, _, _, _, _, _, _, _, _, _, _, _, _, _, _, rfl, by with_reducible assumption, news_drop2 (by with_reducible assumption), by with_reducible assumption, abs_nonneg _, abs_len _, ?_, by with_reducible assumption, by with_reducible assumption, by with_reducible assumption, by with_reducible assumption, ?_⟩
    all_goals first | exact getD_nonneg (abs_nonneg _) _ | exact Int.le_refl 0 | exact And.right (by assumption)
  rintro _ ⟨h, k, D, S, ys, zs, n, t, o1, o2, o3, o4, v2, v3, v4, rfl, F0, N0, I0, Z0, ZL, hn, hd1, hd2, hd3, hd4, l4, l3, l2, l1⟩
  refine wpC_cut (fun s' => Told (∃ (h : Heap) (k : Nat) (X : Array UInt8) (tX : Tok) (o2 : Obj), s' = ⟨h, s₁.gens, s₁.drawn, k, s₁.os⟩ ∧ Fr s₁.heap L' h (fun z => if z = Str.ofString "numbers" then some (.ref D) else if z = Str.ofString "script" then some (.ref S) else none) ∧ News s₁.heap L' h [(L' + 1 + 1 + 1 + 1, o4), (L' + 1 + 1 + 1, o3), (L' + 1 + 1, o2), (L' + 1, o1)] ∧ X.size ≤ 14 ∧ o2.data = Data.cell (some (.bytes X tX)))) ?_ ?_
  · refine wpC_any ?_
    repeat' ((fail_if_success (with_reducible show wpC _ _ _ _ _ _)); (first | (k_unfold; (try dsimp only)) | (k_end; wrow_close) | walk1 | (dsimp only; walk1) | (leave1; (try dsimp only)) | fail "no step"))
    unfold Told
    refine ⟨_, _, _, _, _, rfl, by with_reducible assumption, news_tail (news_tail (news_tail (by with_reducible assumption))), oct_len _ _, by with_reducible assumption⟩
  rintro _ ⟨h, k, X, tX, o2, rfl, F0, N0, hX, hd2⟩
  refine wpC_execs ?_
  refine wpC_any ?_
  repeat' ((fail_if_success (with_reducible show wpC _ _ _ _ _ _)); (first | (k_unfold; (try dsimp only)) | (k_end; wrow_close) | walk1 | (dsimp only; walk1) | (leave1; (try dsimp only)) | fail "no step"))
  refine wpC_cut (fun s' => Told (∃ (h : Heap) (k : Nat) (K : Array UInt8) (tK : Tok) (p : Int) (tp : Tok) (o3 o4 : Obj), s' = ⟨h, s₁.gens, s₁.drawn, k, s₁.os⟩ ∧ Fr s₁.heap L' h (fun z => if z = Str.ofString "numbers" then some (.ref D) else if z = Str.ofString "script" then some (.ref S) else none) ∧ News s₁.heap L' h [(L' + 1 + 1 + 1 + 1, o4), (L' + 1 + 1 + 1, o3), (L' + 1 + 1, o2), (L' + 1, o1)] ∧ (K.size : Int) = 8 ∧ (0 ≤ p ∧ p < 1000) ∧ o3.data = Data.cell (some (.bytes K tK)) ∧ o4.data = Data.cell (some (.int p tp)))) ?_ ?_
  · refine wpC_any ?_
    repeat' ((fail_if_success (with_reducible show wpC _ _ _ _ _ _)); (first | (k_unfold; (try dsimp only)) | (k_end; wrow_close) | walk1 | (dsimp only; walk1) | (leave1; (try dsimp only)) | fail "no step"))
    unfold Told
    refine ⟨_, _, _, _, _, _, _, _, rfl, by with_reducible assumption, news_tail (by with_reducible assumption), key_len _, fmod_in, by with_reducible assumption, by with_reducible assumption⟩
  rintro _ ⟨h, k, K, tK, p, tp, o3, o4, rfl, F0, N0, hK, ⟨hp0, hp1⟩, hd3, hd4⟩
  refine wpC_cut (fun s' => Told (∃ (h : Heap) (k : Nat) (Y : Array UInt8) (tY : Tok), s' = ⟨h, s₁.gens, s₁.drawn, k, s₁.os⟩ ∧ Fr s₁.heap L' h (fun z => if z = Str.ofString "due" then some (.bytes Y tY) else if z = Str.ofString "numbers" then some (.ref D) else if z = Str.ofString "script" then some (.ref S) else none) ∧ News s₁.heap L' h [(L' + 1 + 1 + 1 + 1, o4), (L' + 1 + 1 + 1, o3), (L' + 1 + 1, o2), (L' + 1, o1)] ∧ Y = maskB X K p.toNat)) ?_ ?_
  · refine wpC_any ?_
    repeat' ((fail_if_success (with_reducible show wpC _ _ _ _ _ _)); (first | (k_unfold; (try dsimp only)) | (k_end; wrow_close) | walk1 | (dsimp only; walk1) | (leave1; (try dsimp only)) | fail "no step"))
    unfold Told
    refine ⟨_, _, _, _, rfl, by with_reducible assumption, news_tail (by with_reducible assumption), due_eq hp0⟩
  rintro _ ⟨h, k, Y, tY, rfl, F0, N0, rfl⟩
  have hm2 : (maskB (maskB X K p.toNat) K p.toNat).toList = X.toList := by rw [mask_twice]
  have hm3 : (maskB X K 0).toList = (maskB X K (8 * p).toNat).toList := by rw [show (8 * p).toNat = 8 * p.toNat by omega, mask_eight]
  refine wpC_cut (fun s' => Told (∃ (h : Heap) (k : Nat), s' = ⟨h, s₁.gens, s₁.drawn, k, s₁.os⟩ ∧ Fr s₁.heap L' h (fun z => if z = Str.ofString "due" then some (.bytes (maskB X K p.toNat) tY) else if z = Str.ofString "numbers" then some (.ref D) else if z = Str.ofString "script" then some (.ref S) else none) ∧ News s₁.heap L' h [(L' + 1 + 1 + 1 + 1, o4), (L' + 1 + 1 + 1, o3), (L' + 1 + 1, o2), (L' + 1, o1)])) ?_ ?_
  · refine wpC_any ?_
    repeat' ((fail_if_success (with_reducible show wpC _ _ _ _ _ _)); (first | (k_unfold; (try dsimp only)) | (k_end; wrow_close) | walk1 | (dsimp only; walk1) | (leave1; (try dsimp only)) | fail "no step"))
    unfold Told
    exact ⟨_, _, rfl, by with_reducible assumption, by with_reducible assumption⟩
  rintro _ ⟨h, k, rfl, F0, N0⟩
  clear hm2 hm3
  refine wpC_cut (fun s' => Told (∃ (h : Heap) (k : Nat) (va : Option Value), s' = ⟨h, s₁.gens, s₁.drawn, k, s₁.os⟩ ∧ Fr s₁.heap L' h (fun z => if z = Str.ofString "at" then va else if z = Str.ofString "due" then some (.bytes (maskB X K p.toNat) tY) else if z = Str.ofString "numbers" then some (.ref D) else if z = Str.ofString "script" then some (.ref S) else none) ∧ News s₁.heap L' h [(L' + 1 + 1 + 1 + 1, o4), (L' + 1 + 1 + 1, o3), (L' + 1 + 1, o2), (L' + 1, o1)])) ?_ ?_
  · refine wpC_For ?_
    repeat' ((fail_if_success (with_reducible show wpC _ _ _ _ _ _)); (first | (k_unfold; (try dsimp only)) | (k_end; wrow_close) | walk1 | (dsimp only; walk1) | (leave1; (try dsimp only)) | fail "no step"))
    refine' iterK (L := L') (k := ((X.size + 1 : Nat) : Int)) ?ir (small14 _ (by omega)) (size14 _ (by omega)) ?iF ?iN ?_; (case ir => assumption); (case iF => k_asm); (case iN => k_asm)
    intro I9 h9 F9 N9 hI9; (try k_sweep)
    refine forC_loop (s := s₁) (L := L') (n := X.size + 1) (keep := [(L' + 1 + 1 + 1 + 1, o4), (L' + 1 + 1 + 1, o3), (L' + 1 + 1, o2), (L' + 1, o1)]) (m := fun z => if z = Str.ofString "due" then some (.bytes (maskB X K p.toNat) tY) else if z = Str.ofString "numbers" then some (.ref D) else if z = Str.ofString "script" then some (.ref S) else none) rfl rfl rfl rfl hI9 ?_ ?_ (X.size + 1) 0 _ _ none (by omega) (fr_absent (by k_asm) (by with_unfolding_all rfl)) N9
    · intro i h9 t9 k9 hi F9 N9
      refine wpC_any ?_
      repeat' ((fail_if_success (with_reducible show wpC _ _ _ _ _ _)); (first | (k_unfold; (try dsimp only)) | (k_end; wrow_close) | walk1 | (dsimp only; walk1) | (leave1; (try dsimp only)) | fail "no step"))
      unfold Told
      exact ⟨rfl, _, _, rfl, by with_reducible assumption, by with_reducible assumption⟩
    · intro h9 v9 k9 F9 N9
      unfold Told
      exact ⟨_, _, _, rfl, F9, N9⟩
  rintro _ ⟨h, k, va, rfl, F0, N0⟩
  have hc1 : clipAt K.size 1 = 1 := clip_nat (i := 1) (by omega)
  refine wpC_cut (fun s' => Told (∃ (h : Heap) (k : Nat), s' = ⟨h, s₁.gens, s₁.drawn, k, s₁.os⟩ ∧ Fr s₁.heap L' h (fun z => if z = Str.ofString "at" then va else if z = Str.ofString "due" then some (.bytes (maskB X K p.toNat) tY) else if z = Str.ofString "numbers" then some (.ref D) else if z = Str.ofString "script" then some (.ref S) else none) ∧ News s₁.heap L' h [(L' + 1 + 1 + 1 + 1, o4), (L' + 1 + 1 + 1, o3), (L' + 1 + 1, o2), (L' + 1, o1)])) ?_ ?_
  · refine wpC_If (wpC_isTrue_or (wpC_isTrue_Compare (wpC_Call_Name ?_)))
    repeat' ((fail_if_success (with_reducible show wpC _ _ _ _ _ _)); (first | (k_unfold; (try dsimp only)) | (k_end; wrow_close) | walk1 | (dsimp only; walk1) | (leave1; (try dsimp only)) | fail "no step"))
    refine' wpC_callWith_K ?kX ?kI ?_; (case kX => k_asm); (case kI => k_is)
    repeat' ((fail_if_success (with_reducible show wpC _ _ _ _ _ _)); (first | (k_unfold; (try dsimp only)) | (k_end; wrow_close) | walk1 | (dsimp only; walk1) | (leave1; (try dsimp only)) | fail "no step"))
    refine' pk ?B ?F ?X ?T ?hk ?hdl ?hul ?hz ?hb ?hb0 ?hzb ?hzl ?_; (case B => k_asm); (case F => k_asm); (case X => k_asm); (case T => k_asm); (case hk => exact rfl); (case hdl => decide); (case hul => decide); (case hz => assumption)
    (case hb => exact ⟨[], by rw [keyB_list, List.append_nil]⟩)
    (case hb0 => exact keyB_hd _)
    (case hzb => rw [keyB_size hK]; decide)
    (case hzl => rw [keyB_size hK]; decide)
    intro h9 t9 k9 hk9; (try dsimp only); (have F9 := Fr.keeps (by k_asm) hk9); (have N9 := News.grown (by k_asm) hk9); clear hk9; (try k_sweep)
    repeat' ((fail_if_success (with_reducible show wpC _ _ _ _ _ _)); (first | (k_unfold; (try dsimp only)) | (k_end; wrow_close) | walk1 | (dsimp only; walk1) | (leave1; (try dsimp only)) | fail "no step"))
    refine wpC_any ?_
    repeat' ((fail_if_success (with_reducible show wpC _ _ _ _ _ _)); (first | (k_unfold; (try dsimp only)) | (k_end; wrow_close) | walk1 | (dsimp only; walk1) | (leave1; (try dsimp only)) | fail "no step"))
    refine wpC_execs_nil ?_
    unfold Told
    exact ⟨_, _, rfl, by with_reducible assumption, by with_reducible assumption⟩
  rintro _ ⟨h, k, rfl, F0, N0⟩
  clear hc1
  refine wpC_execs ?_
  refine wpC_any ?_
  repeat' ((fail_if_success (with_reducible show wpC _ _ _ _ _ _)); (first | (k_unfold; (try dsimp only)) | (k_end; wrow_close) | walk1 | (dsimp only; walk1) | (leave1; (try dsimp only)) | fail "no step"))
  refine wpC_cut (fun s' => Told (∃ (h : Heap) (k : Nat) (vn : Option Value), s' = ⟨h, s₁.gens, s₁.drawn, k, s₁.os⟩ ∧ Fr s₁.heap L' h (fun z => if z = Str.ofString "near" then vn else if z = Str.ofString "at" then va else if z = Str.ofString "due" then some (.bytes (maskB X K p.toNat) tY) else if z = Str.ofString "numbers" then some (.ref D) else if z = Str.ofString "script" then some (.ref S) else none) ∧ News s₁.heap L' h [(L' + 1 + 1 + 1 + 1, o4), (L' + 1 + 1 + 1, o3), (L' + 1 + 1, o2), (L' + 1, o1)])) ?_ ?_
  · refine wpC_If (wpC_isTrue_or (wpC_isTrue_not (wpC_isTrue_Call (wpC_Call_Name ?_))))
    repeat' ((fail_if_success (with_reducible show wpC _ _ _ _ _ _)); (first | (k_unfold; (try dsimp only)) | (k_end; wrow_close) | walk1 | (dsimp only; walk1) | (leave1; (try dsimp only)) | fail "no step"))
    refine' wpC_callWith_K ?kX ?kI ?_; (case kX => k_asm); (case kI => k_is)
    repeat' ((fail_if_success (with_reducible show wpC _ _ _ _ _ _)); (first | (k_unfold; (try dsimp only)) | (k_end; wrow_close) | walk1 | (dsimp only; walk1) | (leave1; (try dsimp only)) | fail "no step"))
    refine' ll ?B ?F ?X ?T ?XB ?TB ?D ?hk ?hdl ?hul ?h0 ?h1 ?_; (case B => k_asm); (case F => k_asm); (case X => k_asm); (case T => k_asm); (case hk => exact rfl); (case hdl => decide); (case hul => decide); (case XB => k_asm); (case TB => k_asm); (case D => exact D0)
    (case h0 => exact (near_in n).1)
    (case h1 => exact (near_in n).2)
    (((intro h9 t9 k9 hb9); (try dsimp only); (obtain ⟨F9, N9⟩ := law_back (by k_asm) (by k_asm) hb9); clear hb9; (try k_sweep)))
    repeat' ((fail_if_success (with_reducible show wpC _ _ _ _ _ _)); (first | (k_unfold; (try dsimp only)) | (k_end; wrow_close) | walk1 | (dsimp only; walk1) | (leave1; (try dsimp only)) | fail "no step"))
    refine wpC_any ?_
    repeat' ((fail_if_success (with_reducible show wpC _ _ _ _ _ _)); (first | (k_unfold; (try dsimp only)) | (k_end; wrow_close) | walk1 | (dsimp only; walk1) | (leave1; (try dsimp only)) | fail "no step"))
    refine wpC_execs_nil ?_
    unfold Told
    exact ⟨_, _, _, rfl, by with_reducible assumption, news_tail (by with_reducible assumption)⟩
  rintro _ ⟨h, k, vn, rfl, F0, N0⟩
  refine wpC_cut (fun s' => Told (∃ (h : Heap) (k : Nat) (tw : Tok), s' = ⟨h, s₁.gens, s₁.drawn, k, s₁.os⟩ ∧ Fr s₁.heap L' h (fun z => if z = Str.ofString "whole" then some (.bytes (keyB K) tw) else if z = Str.ofString "near" then vn else if z = Str.ofString "at" then va else if z = Str.ofString "due" then some (.bytes (maskB X K p.toNat) tY) else if z = Str.ofString "numbers" then some (.ref D) else if z = Str.ofString "script" then some (.ref S) else none) ∧ News s₁.heap L' h [(L' + 1 + 1 + 1 + 1, o4), (L' + 1 + 1 + 1, o3), (L' + 1 + 1, o2), (L' + 1, o1)])) ?_ ?_
  · refine wpC_any ?_
    repeat' ((fail_if_success (with_reducible show wpC _ _ _ _ _ _)); (first | (k_unfold; (try dsimp only)) | (k_end; wrow_close) | walk1 | (dsimp only; walk1) | (leave1; (try dsimp only)) | fail "no step"))
    unfold Told
    exact ⟨_, _, _, rfl, by with_reducible assumption, by with_reducible assumption⟩
  rintro _ ⟨h, k, tw, rfl, F0, N0⟩
  refine wpC_cut (fun s' => Told (∃ (h : Heap) (k : Nat), s' = ⟨h, s₁.gens, s₁.drawn, k, s₁.os⟩ ∧ Fr s₁.heap L' h (fun z => if z = Str.ofString "whole" then some (.bytes (keyB K) tw) else if z = Str.ofString "near" then vn else if z = Str.ofString "at" then va else if z = Str.ofString "due" then some (.bytes (maskB X K p.toNat) tY) else if z = Str.ofString "numbers" then some (.ref D) else if z = Str.ofString "script" then some (.ref S) else none) ∧ News s₁.heap L' h [(L' + 1 + 1 + 1 + 1, o4), (L' + 1 + 1 + 1, o3), (L' + 1 + 1, o2), (L' + 1, o1)])) ?_ ?_
  · refine wpC_If (wpC_isTrue_or (wpC_isTrue_Compare (wpC_Call_Name ?_)))
    repeat' ((fail_if_success (with_reducible show wpC _ _ _ _ _ _)); (first | (k_unfold; (try dsimp only)) | (k_end; wrow_close) | walk1 | (dsimp only; walk1) | (leave1; (try dsimp only)) | fail "no step"))
    refine' wpC_callWith_K ?kX ?kI ?_; (case kX => k_asm); (case kI => k_is)
    repeat' ((fail_if_success (with_reducible show wpC _ _ _ _ _ _)); (first | (k_unfold; (try dsimp only)) | (k_end; wrow_close) | walk1 | (dsimp only; walk1) | (leave1; (try dsimp only)) | fail "no step"))
    refine' pk ?B ?F ?X ?T ?hk ?hdl ?hul ?hz ?hb ?hb0 ?hzb ?hzl ?_; (case B => k_asm); (case F => k_asm); (case X => k_asm); (case T => k_asm); (case hk => exact rfl); (case hdl => decide); (case hul => decide); (case hz => assumption)
    (case hb => exact ⟨_, by assumption⟩)
    (case hb0 => exact hd_of (by assumption))
    (case hzb => rename_i hzr; have : (#[109, 111, 114, 101] : Array UInt8).size = 4 := rfl; omega)
    (case hzl => omega)
    intro h9 t9 k9 hk9; (try dsimp only); (have F9 := Fr.keeps (by k_asm) hk9); (have N9 := News.grown (by k_asm) hk9); clear hk9; (try k_sweep)
    repeat' ((fail_if_success (with_reducible show wpC _ _ _ _ _ _)); (first | (k_unfold; (try dsimp only)) | (k_end; wrow_close) | walk1 | (dsimp only; walk1) | (leave1; (try dsimp only)) | fail "no step"))
    refine wpC_isTrue_or ?_
    refine wpC_isTrue_Compare ?_
    refine wpC_Call_Name ?_
    repeat' ((fail_if_success (with_reducible show wpC _ _ _ _ _ _)); (first | (k_unfold; (try dsimp only)) | (k_end; wrow_close) | walk1 | (dsimp only; walk1) | (leave1; (try dsimp only)) | fail "no step"))
    refine' wpC_callWith_K ?kX ?kI ?_; (case kX => k_asm); (case kI => k_is)
    repeat' ((fail_if_success (with_reducible show wpC _ _ _ _ _ _)); (first | (k_unfold; (try dsimp only)) | (k_end; wrow_close) | walk1 | (dsimp only; walk1) | (leave1; (try dsimp only)) | fail "no step"))
    refine' tk_size ?B ?F ?X ?T ?XB ?TB ?D ?hk ?hdl ?hul ?y0 ?y1 ?_; (case B => k_asm); (case F => k_asm); (case X => k_asm); (case T => k_asm); (case hk => exact rfl); (case hdl => decide); (case hul => decide); (case XB => k_asm); (case TB => k_asm); (case D => exact D0)
    (case y0 => exact rfl)
    (case y1 => exact cons_size hK)
    (((intro h9 t9 k9 hb9); (try dsimp only); (obtain ⟨F9, N9⟩ := law_back (by k_asm) (by k_asm) hb9); clear hb9; (try k_sweep)))
    repeat' ((fail_if_success (with_reducible show wpC _ _ _ _ _ _)); (first | (k_unfold; (try dsimp only)) | (k_end; wrow_close) | walk1 | (dsimp only; walk1) | (leave1; (try dsimp only)) | fail "no step"))
    refine wpC_isTrue_or ?_
    refine wpC_isTrue_Compare ?_
    refine wpC_Call_Name ?_
    repeat' ((fail_if_success (with_reducible show wpC _ _ _ _ _ _)); (first | (k_unfold; (try dsimp only)) | (k_end; wrow_close) | walk1 | (dsimp only; walk1) | (leave1; (try dsimp only)) | fail "no step"))
    refine' wpC_callWith_K ?kX ?kI ?_; (case kX => k_asm); (case kI => k_is)
    repeat' ((fail_if_success (with_reducible show wpC _ _ _ _ _ _)); (first | (k_unfold; (try dsimp only)) | (k_end; wrow_close) | walk1 | (dsimp only; walk1) | (leave1; (try dsimp only)) | fail "no step"))
    refine' tk_canon ?B ?F ?X ?T ?XB ?TB ?D ?hk ?hdl ?hul ?y0 ?y1 ?y2 ?_; (case B => k_asm); (case F => k_asm); (case X => k_asm); (case T => k_asm); (case hk => exact rfl); (case hdl => decide); (case hul => decide); (case XB => k_asm); (case TB => k_asm); (case D => exact D0)
    (case y0 => exact ⟨K.toList, by rw [low8]; rfl⟩)
    (case y1 => exact rfl)
    (case y2 => exact cons3_size hK)
    (((intro h9 t9 k9 hb9); (try dsimp only); (obtain ⟨F9, N9⟩ := law_back (by k_asm) (by k_asm) hb9); clear hb9; (try k_sweep)))
    repeat' ((fail_if_success (with_reducible show wpC _ _ _ _ _ _)); (first | (k_unfold; (try dsimp only)) | (k_end; wrow_close) | walk1 | (dsimp only; walk1) | (leave1; (try dsimp only)) | fail "no step"))
    refine wpC_isTrue_or_nil ?_
    repeat' ((fail_if_success (with_reducible show wpC _ _ _ _ _ _)); (first | (k_unfold; (try dsimp only)) | (k_end; wrow_close) | walk1 | (dsimp only; walk1) | (leave1; (try dsimp only)) | fail "no step"))
    refine wpC_execs_nil ?_
    unfold Told
    exact ⟨_, _, rfl, by with_reducible assumption, by with_reducible assumption⟩
  rintro _ ⟨h, k, rfl, F0, N0⟩
  have hKB := keyB_size hK
  refine wpC_cut (fun s' => Told (∃ (h : Heap) (k : Nat) (vb : Option Value), s' = ⟨h, s₁.gens, s₁.drawn, k, s₁.os⟩ ∧ Fr s₁.heap L' h (fun z => if z = Str.ofString "at" then vb else if z = Str.ofString "whole" then some (.bytes (keyB K) tw) else if z = Str.ofString "near" then vn else if z = Str.ofString "at" then va else if z = Str.ofString "due" then some (.bytes (maskB X K p.toNat) tY) else if z = Str.ofString "numbers" then some (.ref D) else if z = Str.ofString "script" then some (.ref S) else none) ∧ News s₁.heap L' h [(L' + 1 + 1 + 1 + 1, o4), (L' + 1 + 1 + 1, o3), (L' + 1 + 1, o2), (L' + 1, o1)])) ?_ ?_
  · refine wpC_For ?_
    repeat' ((fail_if_success (with_reducible show wpC _ _ _ _ _ _)); (first | (k_unfold; (try dsimp only)) | (k_end; wrow_close) | walk1 | (dsimp only; walk1) | (leave1; (try dsimp only)) | fail "no step"))
    refine' iterK (L := L') (k := ((9 : Nat) : Int)) ?ir ?is ?ik ?iF ?iN ?_; (case ir => assumption); (case iF => k_asm); (case iN => k_asm); (case is => decide); (case ik => rfl)
    intro I9 h9 F9 N9 hI9; (try k_sweep)
    refine forC_loop (s := s₁) (L := L') (n := 9) (keep := [(L' + 1 + 1 + 1 + 1, o4), (L' + 1 + 1 + 1, o3), (L' + 1 + 1, o2), (L' + 1, o1)]) (m := fun z => if z = Str.ofString "whole" then some (.bytes (keyB K) tw) else if z = Str.ofString "near" then vn else if z = Str.ofString "at" then va else if z = Str.ofString "due" then some (.bytes (maskB X K p.toNat) tY) else if z = Str.ofString "numbers" then some (.ref D) else if z = Str.ofString "script" then some (.ref S) else none) rfl rfl rfl rfl hI9 ?_ ?_ (9) 0 _ _ va (by omega) (fr_same (by k_asm) (by with_unfolding_all rfl)) N9
    · intro i h9 t9 k9 hi F9 N9
      refine wpC_execs ?_
      refine wpC_If ?_
      refine wpC_isTrue_Compare ?_
      refine wpC_Call_Name ?_
      repeat' ((fail_if_success (with_reducible show wpC _ _ _ _ _ _)); (first | (k_unfold; (try dsimp only)) | (k_end; wrow_close) | walk1 | (dsimp only; walk1) | (leave1; (try dsimp only)) | fail "no step"))
      refine' wpC_callWith_K ?kX ?kI ?_; (case kX => k_asm); (case kI => k_is)
      repeat' ((fail_if_success (with_reducible show wpC _ _ _ _ _ _)); (first | (k_unfold; (try dsimp only)) | (k_end; wrow_close) | walk1 | (dsimp only; walk1) | (leave1; (try dsimp only)) | fail "no step"))
      by_cases hi0 : i = 0
      · subst hi0
        refine' tk_empty ?B ?F ?X ?T ?XB ?TB ?D ?hk ?hdl ?hul ?y0 ?_; (case B => k_asm); (case F => k_asm); (case X => k_asm); (case T => k_asm); (case hk => exact rfl); (case hdl => decide); (case hul => decide); (case XB => k_asm); (case TB => k_asm); (case D => exact D0)
        (case y0 => omega)
        (((intro h9 t9 k9 hb9); (try dsimp only); (obtain ⟨F9, N9⟩ := law_back (by k_asm) (by k_asm) hb9); clear hb9; (try k_sweep)))
        repeat' ((fail_if_success (with_reducible show wpC _ _ _ _ _ _)); (first | (k_unfold; (try dsimp only)) | (k_end; wrow_close) | walk1 | (dsimp only; walk1) | (leave1; (try dsimp only)) | fail "no step"))
        refine wpC_execs_nil ?_
        refine wpC_execs_nil ?_
        unfold Told
        exact ⟨rfl, _, _, rfl, by with_reducible assumption, by with_reducible assumption⟩
      · refine' tk_short ?B ?F ?X ?T ?XB ?TB ?D ?hk ?hdl ?hul ?y0 ?y1 ?y2 ?_; (case B => k_asm); (case F => k_asm); (case X => k_asm); (case T => k_asm); (case hk => exact rfl); (case hdl => decide); (case hul => decide); (case XB => k_asm); (case TB => k_asm); (case D => exact D0)
        (case y0 => exact key_short (k := K) hi0 (by omega) hi (by assumption))
        (case y1 => omega)
        (case y2 => omega)
        (((intro h9 t9 k9 hb9); (try dsimp only); (obtain ⟨F9, N9⟩ := law_back (by k_asm) (by k_asm) hb9); clear hb9; (try k_sweep)))
        repeat' ((fail_if_success (with_reducible show wpC _ _ _ _ _ _)); (first | (k_unfold; (try dsimp only)) | (k_end; wrow_close) | walk1 | (dsimp only; walk1) | (leave1; (try dsimp only)) | fail "no step"))
        refine wpC_execs_nil ?_
        refine wpC_execs_nil ?_
        unfold Told
        exact ⟨rfl, _, _, rfl, by with_reducible assumption, by with_reducible assumption⟩
    · intro h9 v9 k9 F9 N9
      unfold Told
      exact ⟨_, _, _, rfl, F9, N9⟩
  rintro _ ⟨h, k, va', rfl, F0, N0⟩
  refine wpC_execs ?_
  refine wpC_Return ?_
  refine wpC_And2 ?_
  refine wpC_Compare ?_
  refine wpC_Call_Name ?_
  repeat' ((fail_if_success (with_reducible show wpC _ _ _ _ _ _)); (first | (k_unfold; (try dsimp only)) | (k_end; wrow_close) | walk1 | (dsimp only; walk1) | (leave1; (try dsimp only)) | fail "no step"))
  refine' wpC_callWith_K ?kX ?kI ?_; (case kX => k_asm); (case kI => k_is)
  repeat' ((fail_if_success (with_reducible show wpC _ _ _ _ _ _)); (first | (k_unfold; (try dsimp only)) | (k_end; wrow_close) | walk1 | (dsimp only; walk1) | (leave1; (try dsimp only)) | fail "no step"))
  refine' rd_kind ?B ?F ?X ?T ?XB ?TB ?D ?hk ?hdl ?hul  ?_; (case B => k_asm); (case F => k_asm); (case X => k_asm); (case T => k_asm); (case hk => exact rfl); (case hdl => decide); (case hul => decide); (case XB => k_asm); (case TB => k_asm); (case D => exact D0)
  (((intro h9 t9 k9 hb9); (try dsimp only); (obtain ⟨F9, N9⟩ := law_back (by k_asm) (by k_asm) hb9); clear hb9; (try k_sweep)))
  repeat' ((fail_if_success (with_reducible show wpC _ _ _ _ _ _)); (first | (k_unfold; (try dsimp only)) | (k_end; wrow_close) | walk1 | (dsimp only; walk1) | (leave1; (try dsimp only)) | fail "no step"))
  refine wpC_Compare ?_
  refine wpC_Call_Name ?_
  repeat' ((fail_if_success (with_reducible show wpC _ _ _ _ _ _)); (first | (k_unfold; (try dsimp only)) | (k_end; wrow_close) | walk1 | (dsimp only; walk1) | (leave1; (try dsimp only)) | fail "no step"))
  refine' wpC_callWith_K ?kX ?kI ?_; (case kX => k_asm); (case kI => k_is)
  repeat' ((fail_if_success (with_reducible show wpC _ _ _ _ _ _)); (first | (k_unfold; (try dsimp only)) | (k_end; wrow_close) | walk1 | (dsimp only; walk1) | (leave1; (try dsimp only)) | fail "no step"))
  refine' rd_empty ?B ?F ?X ?T ?XB ?TB ?D ?hk ?hdl ?hul ?y0 ?_; (case B => k_asm); (case F => k_asm); (case X => k_asm); (case T => k_asm); (case hk => exact rfl); (case hdl => decide); (case hul => decide); (case XB => k_asm); (case TB => k_asm); (case D => exact D0)
  (case y0 => exact rfl)
  (((intro h9 t9 k9 hb9); (try dsimp only); (obtain ⟨F9, N9⟩ := law_back (by k_asm) (by k_asm) hb9); clear hb9; (try k_sweep)))
  repeat' ((fail_if_success (with_reducible show wpC _ _ _ _ _ _)); (first | (k_unfold; (try dsimp only)) | (k_end; wrow_close) | walk1 | (dsimp only; walk1) | (leave1; (try dsimp only)) | fail "no step"))
  rw [show (Str.ofString "refused" == Str.ofString "refused") = true by decide]
  refine GoodW.toG ?_
  wrow_close
end Mine

end
open PySem PySem.W PyProof.Rows
theorem PySem.Challenge.cw_ez0013_01_holds : PySem.Challenge.rw_ez0013_01.Holds := by
  exact Mine.law_walk
