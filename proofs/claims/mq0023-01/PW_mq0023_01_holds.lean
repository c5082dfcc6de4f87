import PyProof.Rows.All
import Wide.All
import OpenK.AllK
import Wide.FinOn
import Lean
import PySem.Challenge.RW_mq0023_01
set_option Elab.async false

section
open PySem PySem.W PyProof.Rows
set_option maxRecDepth 100000
set_option maxHeartbeats 8000000
set_option linter.unusedVariables false
set_option linter.unusedSimpArgs false
namespace Mine

/-- a built-in under way that would hold a bytearray -/
def isDec : Code → Bool
  | .builtin id _ => Builtin.Bytes.decodersThatHold.contains id
  | _ => false
def CleanL (l : List (Code × Pos)) : Prop := ∀ x ∈ l, isDec x.1 = false
abbrev NF : Value → Shared → Prop := fun _ _ => False

/-- as wpAny, over the contexts alone under which no such built-in stands; no exception comes -/
def wpR {α : Type} (M : Model) (A : Around) (t : Sem α) (Q : α → Shared → Prop) (s : Shared) : Prop :=
  ∀ Γ p, Γ.In A → isDec Γ.code = false → CleanL Γ.below → Sem.wp M Γ t (fun a _ s' => Q a s') (fun _ _ _ => False) p s
def codeR (M : Model) (A : Around) (c : Code) (Q : Flow → Shared → Prop) (s : Shared) : Prop :=
  ∀ Γ p, Γ.code = c → Γ.Below A → isDec c = false → CleanL Γ.below → wpCode M Γ (fun r s' => ∃ f, r = .ok f ∧ Q f s') p s

section
variable {α β : Type} {M : Model} {A : Around} {s : Shared} {env : Env}

theorem wpR_any {t : Sem α} {Q : α → Shared → Prop} (h : wpAny M A t Q NF s) : wpR M A t Q s := fun Γ p hΓ _ _ => h Γ p hΓ
theorem wpR_mono {t : Sem α} {Q Q' : α → Shared → Prop} (h : wpR M A t Q s) (hq : ∀ a s, Q a s → Q' a s) : wpR M A t Q' s :=
  fun Γ p h1 h2 h3 => Sem.wp_mono M Γ t (fun a _ s => hq a s) (fun _ _ _ x => x) p s (h Γ p h1 h2 h3)
theorem wpR_bind {m : Sem α} {f : α → Sem β} {Q : β → Shared → Prop} (h : wpR M A m (fun a s' => wpR M A (f a) Q s') s) : wpR M A (m >>= f) Q s :=
  fun Γ p h1 h2 h3 => by
    rw [Sem.wp_bind']
    exact Sem.wp_mono M Γ m (fun a p' s' h' => h' Γ p' h1 h2 h3) (fun _ _ _ x => x) p s (h Γ p h1 h2 h3)
theorem wpR_pure {a : α} {Q : α → Shared → Prop} (h : Q a s) : wpR M A (pure a : Sem α) Q s := wpR_any (wpAny_pure h)
theorem wpR_standAt {pos : Pos} {f : Unit → Sem α} {Q : α → Shared → Prop} (h : wpR M A (f ()) Q s) : wpR M A (standAt pos >>= f) Q s :=
  wpR_bind (wpR_any (wpAny_standAt h))
theorem wpR_keep {vs : List Value} {t : Sem α} {Q : α → Shared → Prop} (h : wpR M A t Q s) : wpR M A (t.keep vs) Q s :=
  fun Γ p h1 h2 h3 => by rw [Sem.wp_keep]; exact h Γ p h1 h2 h3
theorem wpR_holding {vs : List Value} {t : Sem α} {Q : α → Shared → Prop} (h : wpR M A t Q s) : wpR M A (holding vs t) Q s :=
  fun Γ p h1 h2 h3 => by rw [Sem.wp_holding]; exact h Γ p h1 h2 h3
theorem wpR_onRaise {t : Sem α} {g : Value → Sem Unit} {Q : α → Shared → Prop} (h : wpR M A t Q s) : wpR M A (t.onRaise g) Q s :=
  fun Γ p h1 h2 h3 => by
    rw [Sem.wp_onRaise]
    exact Sem.wp_mono M Γ t (fun _ _ _ x => x) (fun _ _ _ x => x.elim) p s (h Γ p h1 h2 h3)
theorem cleanL_cons {c : Code} {p : Pos} {l : List (Code × Pos)} (h1 : isDec c = false) (h2 : CleanL l) : CleanL ((c, p) :: l) := by
  intro x hx
  rcases List.mem_cons.mp hx with rfl | hx
  · exact h1
  · exact h2 x hx
theorem wpR_runValue {c : Code} {Q : Value → Shared → Prop} (hd : isDec c = false) (h : codeR M A c (fun fl s' => ∃ v, fl = .ret v ∧ Q v s') s) : wpR M A (runValue c) Q s :=
  fun Γ p h1 h2 h3 => by
    rw [Sem.wp_runValue]
    have hb : (Γ.enter c none p).Below A := h1.enter c none p (by intro x; cases x)
    refine wpCode_mono (fun r s' hr => ?_) (h (Γ.enter c none p) p rfl hb hd (cleanL_cons h2 h3))
    obtain ⟨f, rfl, v, rfl, hq⟩ := hr
    exact hq
theorem wpR_call {f : Value} {pos : List Value} {kw : List (Str × Value)} {Q : Value → Shared → Prop} (h : codeR M A (.call f ⟨pos, kw⟩) (fun fl s' => ∃ v, fl = .ret v ∧ Q v s') s) : wpR M A (call f pos kw) Q s :=
  wpR_runValue rfl h
theorem wpR_run {c : Code} {Q : Flow → Shared → Prop} (hd : isDec c = false) (h : codeR M A c Q s) : wpR M A (run c) Q s :=
  fun Γ p h1 h2 h3 => by
    rw [Sem.wp_run]
    have hb : (Γ.enter c none p).Below A := h1.enter c none p (by intro x; cases x)
    refine wpCode_mono (fun r s' hr => ?_) (h (Γ.enter c none p) p rfl hb hd (cleanL_cons h2 h3))
    obtain ⟨f, rfl, hq⟩ := hr
    exact hq
theorem wpR_runOwn {c : Code} {Q : Flow → Shared → Prop} (hd : isDec c = false) (h : codeR M A c Q s) : wpR M A (runOwn c env) Q s := by
  unfold runOwn
  exact wpR_onRaise (wpR_run hd h)
theorem codeR_of_tree {c : Code} {Q : Flow → Shared → Prop}
    (h : wpR M (A.under c) (M.den c) (fun fin s' => match fin with | .done f => Q f s' | .again c' => c'.quiet = true ∧ isDec c' = false ∧ codeR M A c' Q s') s) : codeR M A c Q s :=
  fun Γ p hc hΓ hd hcl => by
    rw [wpCode_iff_wp, hc]
    refine Sem.wp_mono M Γ _ (fun fin p' s' h' => ?_) (fun _ _ _ x => x.elim) p s (h Γ p (hc ▸ hΓ.in) (hc ▸ hd) hcl)
    cases fin with
    | done f => exact ⟨f, rfl, h'⟩
    | again c' => exact ⟨h'.1, h'.2.2 (Γ.goto c') p' rfl (hΓ.goto c') h'.2.1 hcl⟩
theorem codeR_mono {c : Code} {Q Q' : Flow → Shared → Prop} (h : codeR M A c Q s) (hq : ∀ f s, Q f s → Q' f s) : codeR M A c Q' s :=
  fun Γ p h1 h2 h3 h4 => wpCode_mono (fun _ _ ⟨f, e, q⟩ => ⟨f, e, hq _ _ q⟩) (h Γ p h1 h2 h3 h4)
theorem codeR_any {c : Code} {Q : Flow → Shared → Prop} (h : codeAny M A c (fun r s' => ∃ f, r = .ok f ∧ Q f s') s) : codeR M A c Q s :=
  fun Γ p h1 h2 _ _ => h Γ p h1 h2

/-! statements -/
theorem rExecs_nil {Q : Flow → Shared → Prop} (h : Q .next s) : wpR M A (execs [] env) Q s := wpR_pure h
theorem rExecs_cons {st : Stmt} {rest : List Stmt} {Q : Flow → Shared → Prop}
    (h : wpR M A (exec st env) (fun f s' => match f with | .next => wpR M A (execs rest env) Q s' | f => Q f s') s) : wpR M A (execs (st :: rest) env) Q s := by
  rw [execs_cons]
  refine wpR_bind (wpR_mono h fun f s' h' => ?_)
  cases f with
  | next => exact h'
  | brk => exact wpR_pure h'
  | cont => exact wpR_pure h'
  | ret v => exact wpR_pure h'
/-- a statement that the library's lines walk, then the rest -/
theorem rExecs_any {st : Stmt} {rest : List Stmt} {Q : Flow → Shared → Prop}
    (h : wpAny M A (exec st env) (fun f s' => match f with | .next => wpR M A (execs rest env) Q s' | f => Q f s') NF s) : wpR M A (execs (st :: rest) env) Q s :=
  rExecs_cons (wpR_any h)
theorem rReturn {e : Expr} {pos : Pos} {Q : Flow → Shared → Prop} (h : wpR M A (eval e env) (fun v s' => Q (.ret v) s') s) : wpR M A (exec (.Return (some e) pos) env) Q s := by
  rw [exec_Return_some]
  exact wpR_standAt (wpR_bind (wpR_mono h fun _ _ x => wpR_pure x))
theorem rAssign {x : Str} {pos' pos : Pos} {value : Expr} {Q : Flow → Shared → Prop}
    (h : wpR M A (eval value env) (fun v s₁ => wpAny M A (storeName env x v) (fun _ s' => Q .next s') NF s₁) s)
    (hs : swapsWith value (some (.Name x pos')) pos.line env = pure false := by rfl) : wpR M A (exec (.Assign [.Name x pos'] value pos) env) Q s := by
  rw [exec_Assign_Name env x pos' value pos hs]
  refine wpR_standAt (wpR_bind (wpR_mono h fun v s₁ h₁ => wpR_standAt ?_))
  exact wpR_any (wpAny_bind (wpAny_bindName (wpAny_mono h₁ (fun _ _ x => wpAny_pure x) fun _ _ x => x)))
theorem rExpr {e : Expr} {pos : Pos} {Q : Flow → Shared → Prop} (h : wpR M A (eval e env) (fun v s' => v = .none ∧ Q .next s') s)
    (hi : interactive env = false := by rfl) (hs : swapsWith e none pos.line env = pure false := by rfl) : wpR M A (exec (.Expr e pos) env) Q s := by
  rw [exec_Expr env e pos hi hs]
  refine wpR_standAt (wpR_bind (wpR_mono h fun v s' h' => ?_))
  obtain ⟨rfl, hq⟩ := h'
  rw [dropValue_plain (by intro a e; cases e)]
  exact wpR_pure hq
theorem rIf {test : Expr} {body orelse : List Stmt} {pos : Pos} {Q : Flow → Shared → Prop}
    (h : wpR M A (isTrue test env (eval test env)) (fun b s₂ => if b = true then wpR M A (execs body env) Q s₂ else wpR M A (execs orelse env) Q s₂) s) :
    wpR M A (exec (.If test body orelse pos) env) Q s := by
  rw [exec_If]
  refine wpR_standAt (wpR_bind (wpR_mono h fun b s₂ h₂ => ?_))
  cases b <;> simpa using h₂
theorem rTest {l r : Expr} {op : CmpOp} {pos : Pos} {whole : Sem Value} {Q : Bool → Shared → Prop}
    (h : wpR M A (eval l env) (fun a s₁ => wpAny M A (eval r env) (fun b s₂ => wpAny M A (compareOp op a b) (fun c s₃ => wpAny M A (truthy c) Q NF s₃) NF s₂) NF s₁) s)
    (hm : behindInMarks op r = false := by with_unfolding_all rfl) : wpR M A (isTrue (.Compare l [op] [r] pos) env whole) Q s := by
  rw [isTrue_Compare1, markedBehindIn_of_false hm]
  refine wpR_bind (wpR_mono h fun a s₁ h₁ => wpR_any ?_)
  refine wpAny_bind (wpAny_holding (wpAny_mono h₁ (fun b s₂ h₂ => wpAny_bind (wpAny_standAt (wpAny_bind (wpAny_operate' (wpAny_mono h₂ (fun c s₃ h₃ => wpAny_holding h₃) fun _ _ x => x))))) fun _ _ x => x))

/-! calls -/
theorem rSpliced_nil {Q : List Value → Shared → Prop} (h : Q [] s) : wpR M A (spliced []) Q s := wpR_pure h
theorem rSpliced_cons {x : Sem Value} {rest : List (Bool × Sem Value)} {Q : List Value → Shared → Prop}
    (h : wpR M A x (fun v s₁ => wpR M A (spliced rest) (fun vs s₂ => Q (v :: vs) s₂) s₁) s) : wpR M A (spliced ((false, x) :: rest)) Q s := by
  unfold spliced
  refine wpR_bind (wpR_mono h fun v s₁ h₁ => ?_)
  simp only [Bool.false_eq_true, if_false]
  exact wpR_bind (wpR_pure (wpR_bind (wpR_holding (wpR_mono h₁ fun vs s₂ h₂ => wpR_pure h₂))))
theorem rSpliced_any {x : Sem Value} {rest : List (Bool × Sem Value)} {Q : List Value → Shared → Prop}
    (h : wpAny M A x (fun v s₁ => wpR M A (spliced rest) (fun vs s₂ => Q (v :: vs) s₂) s₁) NF s) : wpR M A (spliced ((false, x) :: rest)) Q s := rSpliced_cons (wpR_any h)
theorem rEvalArgs {f : Value} {args : List (Bool × Sem Value)} {Q : Args → Shared → Prop} (hplain : args.any (·.1) = false)
    (h : wpR M A (spliced args) (fun vs s' => Q ⟨vs, []⟩ s') s) : wpR M A (evalArgs f true args []) Q s := by
  unfold evalArgs
  match args, hplain, h with
  | [], _, h =>
    show wpR M A (spliced [] >>= _) Q s
    exact wpR_bind (wpR_mono h fun vs s' h' => wpR_holding (wpR_bind (wpR_pure (wpR_bind (wpR_pure (wpR_pure h'))))))
  | (true, x) :: rest, hp, _ => simp at hp
  | (false, x) :: rest, _, h =>
    show wpR M A (spliced ((false, x) :: rest) >>= _) Q s
    exact wpR_bind (wpR_mono h fun vs s' h' => wpR_holding (wpR_bind (wpR_pure (wpR_bind (wpR_pure (wpR_pure h'))))))
theorem rCallWith {pos : Pos} {f : Value} {first : List Value} {args : List (Bool × Sem Value)} {Q : Value → Shared → Prop} (hplain : args.any (·.1) = false)
    (h : wpR M A (spliced args) (fun vs s₁ => wpAny M A (keeperOf f) (fun k s₂ => (k = Keeper.frame ∨ k = Keeper.machine) ∧ wpR M A (call f (first ++ vs) []) Q s₂) NF s₁) s) :
    wpR M A (callWith pos f first args []) Q s := by
  unfold callWith
  refine wpR_bind (wpR_holding (rEvalArgs hplain (wpR_mono h fun vs s₁ h₁ => wpR_standAt ?_)))
  simp only [hplain, List.any_nil, Bool.or_false]
  refine wpR_bind (wpR_any (wpAny_mono h₁ (fun k s₂ h₂ => ?_) fun _ _ x => x))
  have tail : ∀ {t : Sem Value}, wpR M A t Q s₂ → wpR M A (t >>= fun r => holding [r] point >>= fun _ => pure r) Q s₂ :=
    fun ht => wpR_bind (wpR_mono ht fun r s₃ hr => wpR_bind (wpR_holding (wpR_any (wpAny_point (wpR_pure hr)))))
  have marked : wpR M A (callMarked plainCall f (first ++ vs) []) Q s₂ := by unfold callMarked; exact wpR_keep h₂.2
  rcases h₂.1 with rfl | rfl <;> dsimp only <;> first | exact tail h₂.2 | (split <;> first | exact tail h₂.2 | exact tail marked)
theorem rCall {fn : Str} {p pos : Pos} {args : List Expr} {Q : Value → Shared → Prop}
    (h : wpAny M A (eval (.Name fn p) env) (fun fv s₁ => wpR M A (callWith pos fv [] (backTo pos (starEach args env)) []) Q s₁) NF s) :
    wpR M A (eval (.Call (.Name fn p) args [] pos) env) Q s := by
  have he : eval (.Call (.Name fn p) args [] pos) env = (do callWith pos (← eval (.Name fn p) env) [] (backTo pos (starEach args env)) []) := by rfl
  rw [he]
  exact wpR_bind (wpR_any h)
theorem rMethod {o : Expr} {name : Str} {apos pos : Pos} {args : List Expr} {pl : Sem Bool} {Q : Value → Shared → Prop}
    (h : wpR M A (eval o env) (fun ov s₁ => wpAny M A (getMethod ov name pl) (fun fx s₂ => wpR M A (callWith pos fx.1 fx.2 (backTo pos (starEach args env)) []) Q s₂) NF s₁) s)
    (he : eval (.Call (.Attribute o name apos) args [] pos) env = (do
      let ov ← eval o env
      standAt apos.atName
      let (f, first) ← holding [ov] (getMethod ov name pl)
      callWith pos f first (backTo pos (starEach args env)) []) := by rfl) :
    wpR M A (eval (.Call (.Attribute o name apos) args [] pos) env) Q s := by
  rw [he]
  exact wpR_bind (wpR_mono h fun ov s₁ h₁ => wpR_standAt (wpR_bind (wpR_holding (wpR_any h₁))))
end

/-! the end of a turn -/
def WEnd {σ : Type} (h₀ : Heap) (L : Addr) (s : Shared) (Led : σ → List (Addr × Obj)) (ps : σ → List (Str × Value)) (P : σ → Prop) (μ : σ → Nat) (c : σ) (s₂ : Shared) : Prop :=
  ∃ (c' : σ) (h' : Heap) (tk : Nat) (m' : Str → Option Value) (news' : List (Addr × Obj)), s₂ = { s with heap := h', toks := tk } ∧ Fr h₀ L h' m' ∧ News h₀ L h' news' ∧ (∀ p ∈ Led c', p ∈ news') ∧ (∀ p ∈ ps c', m' p.1 = some p.2) ∧ P c' ∧ μ c' < μ c
def WPost {σ : Type} (h₀ : Heap) (L : Addr) (s : Shared) (Led : σ → List (Addr × Obj)) (ps : σ → List (Str × Value)) (P : σ → Prop) (μ : σ → Nat) (Q : Flow → Shared → Prop) (c : σ) (f : Flow) (s₂ : Shared) : Prop :=
  match f with
  | .ret v => Q (.ret v) s₂
  | .brk => Q .next s₂
  | _ => WEnd h₀ L s Led ps P μ c s₂
theorem w_end {σ : Type} {h₀ : Heap} {L : Addr} {s : Shared} {Led : σ → List (Addr × Obj)} {ps : σ → List (Str × Value)} {m' : Str → Option Value} {P : σ → Prop} {μ : σ → Nat} {c : σ} {h' : Heap} {tk : Nat} {news' : List (Addr × Obj)} (c' : σ)
    (F : Fr h₀ L h' m') (N : News h₀ L h' news') (hn : ∀ p ∈ Led c', p ∈ news') (hk : ∀ p ∈ ps c', m' p.1 = some p.2) (hp : P c') (hm : μ c' < μ c) :
    WEnd h₀ L s Led ps P μ c { s with heap := h', toks := tk } := ⟨c', h', tk, m', news', rfl, F, N, hn, hk, hp, hm⟩
theorem fr_kstB {h₀ h : Heap} {L : Addr} {ps : List (Str × Value)} {m : Str → Option Value} (h1 : ∀ p ∈ ps, m p.1 = some p.2) (F : Fr h₀ L h m) : Fr h₀ L h (kstB m ps) := by
  have e : kstB m ps = m := by
    funext y
    exact kstB_eq h1 fun _ => rfl
  rw [e]; exact F

section
variable {prog : Program} {w : World} {A : Around} {E : Value → Shared → Prop} {Q : Flow → Shared → Prop} {s : Shared} {env : Env} {h₀ : Heap} {L : Addr}
theorem my_while {σ : Type} {test : Expr} {body : List Stmt} {pos : Pos} {m₀ : Str → Option Value} (Led : σ → List (Addr × Obj)) (ps : σ → List (Str × Value)) (P : σ → Prop) (μ : σ → Nat) (c₀ : σ)
    (F : Fr h₀ L s.heap m₀) (N : News h₀ L s.heap (Led c₀)) (hk : ∀ p ∈ ps c₀, m₀ p.1 = some p.2) (hp : P c₀) (hE : PassesOwn (model prog w) A env E)
    (turn : ∀ (c : σ) (u : Str → Option Value) h tk, P c → Fr h₀ L h (kstB u (ps c)) → News h₀ L h (Led c) →
      wpAny (model prog w) A (isTrue test env (eval test env)) (fun b s₂ =>
        if b = true then wpAny (model prog w) A (execs body env) (WPost h₀ L s Led ps P μ Q c) E s₂ else Q .next s₂) E { s with heap := h, toks := tk }) :
    wpAny (model prog w) A (exec (.While test body [] pos) env) Q E s := by
  refine While_inv2 (fun n m nx => ∃ c : σ, nx = Led c ∧ μ c = n ∧ (∀ p ∈ ps c, m p.1 = some p.2) ∧ P c) F N ⟨c₀, rfl, rfl, hk, hp⟩ ?_ hE
  rintro n m₁ nx h tk F₁ N₁ ⟨c, hnx, hsz, h1, hp'⟩
  rw [hnx] at N₁
  rw [← hsz]
  refine wpAny_mono (turn c m₁ h tk hp' (fr_kstB h1 F₁) N₁) (fun b s₂ p => ?_) fun _ _ x => x
  cases b with
  | false => simpa using p
  | true =>
    simp only [if_true] at p ⊢
    refine wpAny_mono p (fun f s₃ q => ?_) fun _ _ x => x
    cases f with
    | ret v => exact q
    | brk => exact q
    | next =>
      obtain ⟨c', h', tk', m', news', rfl, F', N', hn, hk9, hp9, hm9⟩ := q
      exact ⟨h', tk', m', Led c', μ c', rfl, F', fun p hp => N' p (hn p hp), hm9, c', rfl, rfl, hk9, hp9⟩
    | cont =>
      obtain ⟨c', h', tk', m', news', rfl, F', N', hn, hk9, hp9, hm9⟩ := q
      exact ⟨h', tk', m', Led c', μ c', rfl, F', fun p hp => N' p (hn p hp), hm9, c', rfl, rfl, hk9, hp9⟩

theorem rWhile {σ : Type} {test : Expr} {body : List Stmt} {pos : Pos} {m₀ : Str → Option Value} (Led : σ → List (Addr × Obj)) (ps : σ → List (Str × Value)) (P : σ → Prop) (μ : σ → Nat) (c₀ : σ)
    (F : Fr h₀ L s.heap m₀) (N : News h₀ L s.heap (Led c₀)) (hk : ∀ p ∈ ps c₀, m₀ p.1 = some p.2) (hp : P c₀)
    (turn : ∀ (c : σ) (u : Str → Option Value) h tk, P c → Fr h₀ L h (kstB u (ps c)) → News h₀ L h (Led c) →
      wpAny (model prog w) A (isTrue test env (eval test env)) (fun b s₂ =>
        if b = true then wpR (model prog w) A (execs body env) (WPost h₀ L s Led ps P μ Q c) s₂ else Q .next s₂) NF { s with heap := h, toks := tk }) :
    wpR (model prog w) A (exec (.While test body [] pos) env) Q s := by
  rw [exec_While]
  refine wpR_standAt (wpR_runOwn rfl ?_)
  have key : ∀ (n : Nat) (c : σ) (m : Str → Option Value) h tk, μ c = n → P c → Fr h₀ L h m → (∀ p ∈ ps c, m p.1 = some p.2) → News h₀ L h (Led c) →
      codeR (model prog w) A (.whileLoop test body [] env) Q { s with heap := h, toks := tk } := by
    intro n
    induction n using Nat.strongRecOn with
    | ind n ih =>
      intro c m h tk hn hP F₁ hk₁ N₁
      refine codeR_of_tree ?_
      rw [Around.under_of_weight rfl]
      show wpR _ A ((whileTurn test body [] env).onRaise (fun x => do noteFrame x env; theTreesLotGoes x)) _ _
      refine wpR_onRaise ?_
      unfold whileTurn
      refine wpR_bind (wpR_any (wpAny_mono (turn c m h tk hP (fr_kstB hk₁ F₁) N₁) (fun b s₂ h₂ => ?_) fun _ _ x => x))
      cases b with
      | false =>
        simp only [Bool.false_eq_true, if_false] at h₂ ⊢
        exact wpR_bind (rExecs_nil (wpR_pure h₂))
      | true =>
        simp only [if_true] at h₂ ⊢
        refine wpR_bind (wpR_mono h₂ fun f s₃ q => ?_)
        cases f with
        | ret v => exact wpR_pure q
        | brk => exact wpR_pure q
        | next =>
          obtain ⟨c', h', tk', m', news', rfl, F', N', hn', hk9, hp9, hm9⟩ := q
          exact wpR_pure ⟨rfl, rfl, ih (μ c') (hn ▸ hm9) c' m' h' tk' rfl hp9 F' hk9 fun p hp => N' p (hn' p hp)⟩
        | cont =>
          obtain ⟨c', h', tk', m', news', rfl, F', N', hn', hk9, hp9, hm9⟩ := q
          exact wpR_pure ⟨rfl, rfl, ih (μ c') (hn ▸ hm9) c' m' h' tk' rfl hp9 F' hk9 fun p hp => N' p (hn' p hp)⟩
  exact key (μ c₀) c₀ m₀ s.heap s.toks rfl hp F hk N
end
end Mine
end

section
open PySem PySem.W PyProof.Rows PySem.Calls
set_option maxRecDepth 100000
set_option maxHeartbeats 8000000
set_option linter.unusedVariables false
set_option linter.unusedSimpArgs false
namespace Mine

/-! The head over clean stacks. A tree that first looks at the stack: under a stack that is not clean it hands back True at once;
at the caller's own stack it is the given tree one step on. -/
def cleanB (l : List (Code × Pos)) : Bool := l.all fun x => !isDec x.1
theorem cleanB_iff {l : List (Code × Pos)} : cleanB l = true ↔ CleanL l := by
  unfold cleanB CleanL
  simp [List.all_eq_true]
def guardedTree (t : Sem Fin) : Sem Fin := .stack fun st => if cleanB st = true then t else .pure (.done (.ret (.bool true)))
def guardedRun (f : Value) (vs : List Value) : Sem Value := .stack fun st => if cleanB st = true then call f vs else .pure (.bool true)

theorem wpAny_guardedRun {M : Model} {A : Around} {s : Shared} {f : Value} {vs : List Value} {Q E : Value → Shared → Prop} (h : wpR M A (call f vs) Q s) (ht : Q (.bool true) s) : wpAny M A (guardedRun f vs) Q E s := by
  intro Γ p hΓ
  show Sem.wp M Γ (if cleanB ((Γ.code, p) :: Γ.below) = true then call f vs else .pure (.bool true)) _ _ p s
  by_cases hc : cleanB ((Γ.code, p) :: Γ.below) = true
  · rw [if_pos hc]
    have hcl := cleanB_iff.mp hc
    exact Sem.wp_mono M Γ _ (fun _ _ _ x => x) (fun _ _ _ x => x.elim) p s (h Γ p hΓ (hcl _ (.head _)) fun x hx => hcl x (.tail _ hx))
  · rw [if_neg hc]
    exact ht

theorem sched_guarded {prog : Program} {w : World} {t : Sem Fin} {s s' : Shared} {n : Nat} {o : Outcome} (hr : s.asleep)
    (h : schedN (denote table) prog w n (.single s ⟨guardedTree t, .builtin "claim.caller" {}, default, []⟩) = .halted o s') :
    ∃ m, schedN (denote table) prog w m (.single s ⟨t, .builtin "claim.caller" {}, default, []⟩) = .halted o s' := by
  have hs : step (denote table) prog w s ⟨guardedTree t, .builtin "claim.caller" {}, default, []⟩ = .go s ⟨t, .builtin "claim.caller" {}, default, []⟩ := by
    have hc : cleanB [((Code.builtin "claim.caller" {}), (default : Pos))] = true := by decide +kernel
    show Step.go s ⟨(if cleanB [((Code.builtin "claim.caller" {}), (default : Pos))] = true then t else _), _, _, _⟩ = _
    rw [if_pos hc]
  cases n with
  | zero => simp [schedN] at h
  | succ n =>
    refine ⟨n, ?_⟩
    rcases sstep_single (denote table) prog w s ⟨guardedTree t, .builtin "claim.caller" {}, default, []⟩ rfl hr with e | e
    · rw [hs] at e
      unfold schedN at h
      rw [e] at h
      exact h
    · rw [hs] at e; cases e

abbrev WalkR (q : Program) (loose : List Str) (XP : (Str → Option Value) → Heap → Prop) (YP : World → Heap → Prop) (r : RowW) (d : DefRec) (kwd : List (Str × Expr)) : Prop :=
  ∀ (w : World) (s₀ s₁ : Shared) (mg mb : Str → Option Value), Ground q loose r.records XP w s₀ mg mb s₁.heap → YP w s₁.heap → ∀ (a : Addr) (o : Obj) (pm cd doc dV kV : Value), s₁.heap.get? a = some o →
    o.data = .func { docDef d.name d.params d.body d.scope pm cd doc with defaults := dV, kwdefaults := kV } → s₁.heap.CodeRec cd d.name → Dflts mg s₁.heap d.params kwd dV kV → mg d.name = some (.ref a) → s₁.gens = #[] →
    ∀ (args : List WData) (vals : List Value) (as : List Addr), r.claim.pre args = true → WData.layableAll args = true → ReadsAllW r.records (classAt s₀.heap) s₁.heap vals args as → WellAll w.params s₁.heap vals args → (∀ a ∈ as, (a == sysModules) = false) →
      wpR (model r.prog w) callerA (call (.ref a) vals) (fun v s' => GoodWG r.claim (classAt s₀.heap) (ExcName.means s₀.heap) args s₁ (.ok (.ret v)) s') s₁ ∧
      GoodWG r.claim (classAt s₀.heap) (ExcName.means s₀.heap) args s₁ (.ok (.ret (.bool true))) s₁

end Mine
namespace Mine.PySem.W
/-- The head of an open row, the call walked over clean stacks alone. It bears this name so that the kit's own head line, used in this namespace, takes it. -/
theorem holds_open {r : OpenRow} {q : Program} {loose : List Str} {Xt : Shared → Bool} {XP : (Str → Option Value) → Heap → Prop} {α : Type} {Yf : Shared → α} {Ya : World → α} {YP : World → Heap → Prop} {d : DefRec} {kwd : List (Str × Expr)} {N : Nat}
    (left : LeftO r.prog q loose Xt Yf Ya N) (hY : ∀ w s, Yf s = Ya w → YP w s.heap) (hYk : ∀ w h h', YP w h → (∀ b o, h.get? b = some o → h'.get? b = some o) → YP w h')
    (hX : ∀ s, Xt s = true → XP (s.heap.nsMap mainGlobals) s.heap) (hXk : ∀ mg h h', XP mg h → (∀ b o, h.get? b = some o → h'.get? b = some o) → XP mg h')
    (hdef : defOf q r.name = some (d, kwd)) (hp : r.prog.theDef r.name = some (d.params, d.body, d.scope)) (hk : kwWritten? d.params.kwonlyargs d.params.kw_defaults = some kwd) (hRf : ∀ s, Xt s = true → RecFacts r.records s.heap) (hwr : (!r.writes || r.records.isEmpty) = true)
    (k1 : r.wellSaid = true) (ok : (chainsOk q && opensWell r.prog && (frees r.toRowW && r.within.isEmpty)) = true) (hb : r.prog.bare) (hw : r.toRowW.promised)
    (call : WalkR q loose XP YP r.toRowW d kwd) : r.Holds := by
  have H := open_anyG (r := r.toRowW) (run := guardedRun) (tree := fun vs => guardedTree (do match ← nsGet mainNs r.name with
      | some f => do ret (← PySem.call f vs)
      | none => unsupported "claim.caller:no-such-global")) (defs := if r.pinned then [r.name] else []) (kps := r.keeps) (writes := r.writes) left hY hYk hX hXk hRf hwr ok hb hw
    (fun vs w s mg f Q E hg hf h Γ p hΓ => by
      have h0 := h Γ p hΓ
      have h1 : Sem.wp (model r.prog w) Γ (if cleanB ((Γ.code, p) :: Γ.below) = true then PySem.call f vs else .pure (.bool true)) (fun v _ s' => Q (.done (.ret v)) s') (fun e _ s' => E e s') p s := h0
      show Sem.wp (model r.prog w) Γ (if cleanB ((Γ.code, p) :: Γ.below) = true then _ else Sem.pure (PySem.Fin.done (PySem.Flow.ret (PySem.Value.bool true)))) _ _ p s
      by_cases hc : cleanB ((Γ.code, p) :: Γ.below) = true
      · rw [if_pos hc] at h1 ⊢
        rw [Sem.wp_bind']
        have hg' : s.heap.Ns mainNs mg := hg
        rw [Sem.wp_nsGet _ _ _ _ _ hg', hf]
        show Sem.wp _ Γ (PySem.call f vs >>= fun v => ret v) _ _ p s
        rw [Sem.wp_bind']
        exact Sem.wp_mono _ Γ _ (fun v p' s' x => x) (fun _ _ _ x => x) p s h1
      · rw [if_neg hc] at h1 ⊢
        exact h1)
    (fun w s hg G n hn => by
      obtain rfl : n = r.name := by split at hn <;> simp_all
      exact pinned_of_view hg G hdef hp hk)
    (fun w s₀ s₁ mg mb G Y args vs as hpre hlay L low => by
      obtain ⟨a, o, pm, cd, doc, dV, kV, h1, h2, h3, h4, h5⟩ := G.fn hdef
      have c := call w s₀ s₁ mg mb G Y a o pm cd doc dV kV h2 h3 h4 h5 (defOf_name hdef ▸ h1) L.gens args vs as hpre hlay L.reads L.well (L.low low)
      exact ⟨.ref a, h1, wpAny_guardedRun c.1 c.2⟩)
  refine ⟨k1, hw, H.1, H.2.1, fun w => ⟨(H.2.2 w).1, fun s hs => ?_⟩⟩
  obtain ⟨s₀, hf, hg, s₁, hT, h1, h2, h3, hcall⟩ := (H.2.2 w).2 s hs
  refine ⟨s₀, hf, hg, s₁, hT, h1, h2, h3, fun args hp hl ord ho => ?_⟩
  obtain ⟨vs, s₂, hlaid, n, o, s', hsn, rest⟩ := hcall args hp hl ord ho
  have hz : s.asleep := AfterImport.life hs
  have z : s₁.asleep := Shared.asleep_of_life (hT.2.1.trans (fence_lifeW hf)) hz
  obtain ⟨m, hm⟩ := sched_guarded (Shared.asleep_of_life (layAllW_rest _ _ _ hlaid).2.2.2 z) hsn
  exact ⟨vs, s₂, hlaid, m, o, s', hm, rest⟩
end Mine.PySem.W
end

section
open PySem PySem.W PyProof.Rows
set_option maxRecDepth 100000
set_option maxHeartbeats 8000000
namespace Mine
open_top hd for PySem.Challenge.rw_mq0023_01
end Mine
end

section
open PySem PySem.W PyProof.Rows
set_option maxRecDepth 100000
set_option maxHeartbeats 8000000
set_option linter.unusedVariables false
set_option linter.unusedSimpArgs false
namespace Mine

section
variable {prog : Program} {w : World} {A : Around} {s : Shared}
theorem codeR_func {body : List Stmt} {env : Env} {Q : Flow → Shared → Prop} (h : wpR (model prog w) (A.deeper env) (execs body env) (fun f s' => Q (.ret (match f with | .ret v => v | _ => .none)) s') s) : codeR (model prog w) A (.func body env) Q s := by
  refine codeR_of_tree ?_
  show wpR _ (A.deeper env) (do point; match ← (execs body env).onRaise (leaving env) with | .ret v => ret v | _ => ret .none) _ s
  refine wpR_bind (wpR_any (wpAny_point (wpR_bind (wpR_onRaise (wpR_mono h fun f s' h' => ?_)))))
  cases f <;> exact wpR_pure h'
theorem codeR_call_function {a : Addr} {args : Args} {o : Obj} {fd : FuncData} {body : List Stmt} {Q : Flow → Shared → Prop} (hroom : A.depth < recursionLimit)
    (ho : s.heap.get? a = some o) (hd' : o.data = .func fd) (hco : fd.scope.isCoroutine = false) (hgen : fd.scope.isGenerator = false) (hbody : fd.body = .stmts body) (hcd : s.heap.CodeRec fd.code fd.qualname)
    (h : wpAny (model prog w) A.in1 (bindArgs fd args) (fun binds s₁ =>
      wpAny (model prog w) A.in1 (newFunctionEnv fd.scope fd.globals fd.closure binds (fd.qualname ++ ".<locals>.") (some a) fd.code none fd.builtins)
        (fun env s₂ => s₂.heap.NoLimit ∧ codeR (model prog w) A (.func body env) Q s₂) NF s₁) NF s) :
    codeR (model prog w) A (.call (.ref a) args) Q s := by
  refine codeR_of_tree (wpR_any ?_)
  show wpAny _ A.in1 (callAny (.ref a) args) _ _ s
  simp only [callAny]
  refine wpAny_bind (wpAny_load ho ?_)
  obtain ⟨c, oc, vs, tq, hc, hoc, hdc, hq⟩ := hcd
  simp only [hd', callFunction, hco, hgen, hbody, hc]
  rw [hc] at h
  refine wpAny_bind (m := field (.ref c) 1) (wpAny_field hoc hdc hq (wpAny_bind (wpAny_pure ?_)))
  refine wpAny_bind (wpAny_mono h (fun binds s₁ h₁ => wpAny_bind (wpAny_mono h₁ (fun env s₂ h₂ => wpAny_bind (wpAny_enterFrame h₂.1 hroom (wpAny_pure ?_))) fun _ _ x => x)) fun _ _ x => x)
  exact ⟨rfl, rfl, h₂.2⟩
end

theorem lookup_kstB (ps : List (Str × Value)) : (fun y => ps.lookup y) = kstB (fun _ => none) ps := by
  funext y
  induction ps with
  | nil => rfl
  | cons p r ih =>
    show List.lookup y (p :: r) = if y = p.1 then some p.2 else kstB (fun _ => none) r y
    obtain ⟨x, v⟩ := p
    rw [List.lookup_cons, ih]
    by_cases h : y = x
    · subst h; simp
    · have e : (y == x) = false := by simpa using h
      rw [e]; simp [h]

section
variable {w : World} {f : Addr} {vs : List Value} {dp un : Nat} {gd : Option (List Code)} {cn : Str} {cs : Scope} {a : Addr} {ccd : Value} {cl : List (Str × Addr)} {outer : List Env} {A₀ : Around} {base h₀ : Heap} {L : Addr} {m : Str → Option Value} {news : List (Addr × Obj)} {s : Shared} {Q E : Value → Shared → Prop} {mean : ExcName → Option Value} {mg mb : Str → Option Value}
  {name qual : Str} {params : Arguments} {body : List Stmt} {scope : Scope} {dV kV doc pm cdv ct oc : Value} {an od : Option Addr} {osl : Array (Option Value)}
theorem enter (ps : List (Str × Value))
    (B : Below A₀ base outer h₀) (F : Fr h₀ L s.heap m) (X : (hd.heap_39 w.params).In h₀) (N : News h₀ L s.heap news) (T : Top hd.view_39 (looseW hd.view_39 []) mean mg mb h₀) (hk : cs.kind = .function) (hroom : dp < recursionLimit)
    (ho : (hd.heap_39 w.params).lookup f = some ⟨oc, od, .func (fnOf name qual params body scope dV kV doc pm an cdv ct), osl⟩) (hcd : codeIn (hd.heap_39 w.params) cdv qual = true)
    (hb : BindsTo s (fnOf name qual params body scope dV kV doc pm an cdv ct) ⟨vs, []⟩ ps.reverse) (hloc : ∀ y ∈ ps.reverse, scope.names.lookup y.1 = some .local)
    (hco : scope.isCoroutine = false) (hgen : scope.isGenerator = false) (hk' : scope.kind = .function)
    (hcell : ∀ x ∈ scope.names, x.2 ≠ .cell)
    (h : ∀ g L' h₁ tk, Fr h₀ L g m → Fr g L' h₁ (kstB (fun _ => none) ps) → News g L' h₁ news → Below (ktrTop dp un gd cn cs L a ccd cl outer) base (envX cn cs L a ccd cl :: outer) g → (hd.heap_39 w.params).In g → Top hd.view_39 (looseW hd.view_39 []) mean mg mb g →
      wpAny (model Challenge.rw_mq0023_01.row.prog w) ((ktrTop dp un gd cn cs L a ccd cl outer).deeper (envOf qual scope L' f cdv)) (execs body (envOf qual scope L' f cdv))
        (fun fl s' => LeaveK h₀ L m g (fun r s' => match r with | .ok (.ret v) => Q v s' | .ok _ => False | .error e => E e s') (match fl with | .ret v => v | _ => .none) s')
        (fun e s' => wpAny (model Challenge.rw_mq0023_01.row.prog w) ((ktrTop dp un gd cn cs L a ccd cl outer).deeper (envOf qual scope L' f cdv)) (leaving (envOf qual scope L' f cdv) e) (fun _ s'' => E e s'') (fun e' s'' => E e' s'') s')
        { s with heap := h₁, toks := tk }) :
    wpAny (model Challenge.rw_mq0023_01.row.prog w) (ktrTop dp un gd cn cs L a ccd cl outer) (call (.ref f) vs) Q E s := by
  refine wpAny_call ?_
  refine code_def B F X N T rfl rfl hk ho hcd hroom hb hloc ?_ hco hgen hk' hcell
  intro g L' h₁ FG F' N' B' X' T'
  rw [List.reverse_reverse, lookup_kstB] at F'
  exact h g L' h₁ _ FG F' N' B' X' T'

theorem enterR (ps : List (Str × Value))
    (B : Below A₀ base outer h₀) (F : Fr h₀ L s.heap m) (X : (hd.heap_39 w.params).In h₀) (N : News h₀ L s.heap news) (T : Top hd.view_39 (looseW hd.view_39 []) mean mg mb h₀) (hk : cs.kind = .function) (hroom : dp < recursionLimit)
    (ho : (hd.heap_39 w.params).lookup f = some ⟨oc, od, .func (fnOf name qual params body scope dV kV doc pm an cdv ct), osl⟩) (hcd : codeIn (hd.heap_39 w.params) cdv qual = true)
    (hb : BindsTo s (fnOf name qual params body scope dV kV doc pm an cdv ct) ⟨vs, []⟩ ps.reverse) (hloc : ∀ y ∈ ps.reverse, scope.names.lookup y.1 = some .local)
    (hco : scope.isCoroutine = false) (hgen : scope.isGenerator = false) (hk' : scope.kind = .function)
    (hcell : ∀ x ∈ scope.names, x.2 ≠ .cell)
    (h : ∀ g L' h₁ tk, Fr h₀ L g m → Fr g L' h₁ (kstB (fun _ => none) ps) → News g L' h₁ news → (∀ p ∈ news, p.1 < L') → Below (ktrTop dp un gd cn cs L a ccd cl outer) base (envX cn cs L a ccd cl :: outer) g → (hd.heap_39 w.params).In g → Top hd.view_39 (looseW hd.view_39 []) mean mg mb g →
      wpR (model Challenge.rw_mq0023_01.row.prog w) ((ktrTop dp un gd cn cs L a ccd cl outer).deeper (envOf qual scope L' f cdv)) (execs body (envOf qual scope L' f cdv))
        (fun fl s' => LeaveK h₀ L m g (fun r s' => match r with | .ok (.ret v) => Q v s' | _ => False) (match fl with | .ret v => v | _ => .none) s')
        { s with heap := h₁, toks := tk }) :
    wpR (model Challenge.rw_mq0023_01.row.prog w) (ktrTop dp un gd cn cs L a ccd cl outer) (call (.ref f) vs) Q s := by
  refine wpR_call ?_
  obtain ⟨FG, BG, st, lv⟩ := groundX (A := ktrTop dp un gd cn cs L a ccd cl outer) (R := fun r s' => match r with | .ok (.ret v) => Q v s' | _ => False) B F N rfl rfl hk
  have Xs := X.keeps F.keep
  refine codeR_call_function hroom (Xs _ _ ho) rfl hco hgen rfl (codeRec_of Xs hcd) (hb _ _ _ _ ?_)
  refine wpAny_newFunctionEnv hcell hloc (fun h₁ hns hsb => ⟨(T.nolimit.keeps F.keep).fresh _ hsb, codeR_func ?_⟩) hk'
  have hk₁ : ∀ b o, s.heap.get? b = some o → h₁.get? b = some o := fun b o e => hsb.extBut b o (Nat.ne_of_lt (Heap.lt_size e)) (Heap.get?_push_of_some _ e)
  rw [List.reverse_reverse, lookup_kstB] at hns
  refine wpR_mono (h _ s.heap.objs.size h₁ _ FG ⟨hns, fun b o e => hk₁ b o (of_hideAll _ e), Nat.le_of_eq (hideAll_size _ _)⟩
    (fun p hp => ⟨hk₁ _ _ (N p hp).1, Nat.ne_of_lt (Heap.lt_size (N p hp).1), hideAll_none _ (List.mem_map_of_mem hp)⟩) (fun p hp => Heap.lt_size (N p hp).1) BG (X.keeps st) (T.keeps st)) fun fl s' hl => ?_
  exact ⟨_, rfl, lv _ _ hl⟩
end
end Mine
end

section
open PySem PySem.W PyProof.Rows
set_option maxRecDepth 100000
set_option maxHeartbeats 8000000
set_option linter.unusedVariables false
set_option linter.unusedSimpArgs false
namespace Mine

/-! the stack bears nothing that holds a bytearray -/
theorem guards_nil {l : List (Code × Pos)} (h : guardsOf l = []) : ∀ x ∈ l, x.1.isGuard = false := by
  induction l with
  | nil => intro x hx; cases hx
  | cons y l ih =>
    obtain ⟨c, p⟩ := y
    rw [guardsOf_cons] at h
    have h1 := (List.append_eq_nil_iff.mp h).1
    have h2 := (List.append_eq_nil_iff.mp h).2
    intro x hx
    rcases List.mem_cons.mp hx with rfl | hx
    · cases hg : c.isGuard with
      | false => rfl
      | true => simp [Code.guards, hg] at h1
    · exact ih h2 x hx
section
variable {M : Model} {A : Around} {s : Shared}
theorem rExported {self : Value} {Q : Bool → Shared → Prop} (hA : A.guards = some []) (h : Q false s) : wpR M A (Builtin.Bytes.exported self) Q s := by
  intro Γ p hΓ hd hcl
  have hg : guardsOf ((Γ.code, p) :: Γ.below) = [] := by rw [guardsOf_cons]; exact hΓ.2.2.2.1 [] hA
  have hgs := guards_nil hg
  unfold Builtin.Bytes.exported
  show Q (List.any ((Γ.code, p) :: Γ.below) _) s
  rw [List.any_eq_false.mpr]
  · exact h
  · rintro ⟨c, q⟩ hx
    have h1 := hgs _ hx
    have h2 : isDec c = false := by
      rcases List.mem_cons.mp hx with e | hx
      · cases e; exact hd
      · exact hcl _ hx
    rw [Bool.not_eq_true]
    split
    · rename_i h; cases h; simp [Code.isGuard, guardIds] at h1
    · rename_i h; cases h; simp [Code.isGuard, guardIds] at h1
    · rename_i h; cases h; simp [Code.isGuard, guardIds] at h1
    · rename_i h; cases h; simp [Code.isGuard, guardIds] at h1
    · rename_i h; cases h; simp [Code.isGuard, guardIds] at h1
    · rename_i h; cases h
      have hd' : Builtin.Bytes.decodersThatHold.contains _ = false := h2
      rw [hd', Bool.and_false]
    · rfl
end

/-! facts on bytearray -/
theorem ba_plainAttrs : PlainAttrs "bytearray" :=
  ⟨⟨"bytearray.__getattribute__", by rw [typeLookup_type, builtinLookup_eq_fast]; kernel_rfl, by decide +kernel⟩, by rw [typeLookup_type, builtinLookup_eq_fast]; kernel_rfl⟩
theorem ba_owner : Manifest.owners.lookup (String.ofList ['y', 'a', 'r', 'r', 'a', 'e', 't', 'y', 'b'].reverse) = some Manifest.sig_bytearray := by kernel_rfl
theorem ba_slot_append : Slot "bytearray" "append" "bytearray.append" :=
  .of (owner := "bytearray") (n := "append") (by rw [typeLookup_type, builtinLookup_eq_fast]; kernel_rfl) (by decide +kernel) (by decide +kernel) (by decide +kernel)
    (by first | exact .inl (by decide +kernel) | exact .inr (by decide +kernel)) (by rw [isSubtype_type]; kernel_rfl)
theorem ba_type_append : typeOf (.builtin "bytearray.append") = pure (.type "method_descriptor") := by show builtinType _ = _; rw [builtinType_eq_fast]; kernel_rfl
theorem ba_entry_append : entryFor table "bytearray.append" = some Builtin.«bytearray.append» := entryFor_of_tree (by kernel_rfl)
theorem ba_args_append (a b : Value) : argsOk "bytearray.append" ⟨[a, b], []⟩ := by
  unfold argsOk; rw [signature?_of (id := "bytearray.append") (n := ['d', 'n', 'e', 'p', 'p', 'a']) (o := ['y', 'a', 'r', 'r', 'a', 'e', 't', 'y', 'b']) (by kernel_rfl) ba_owner]; kernel_rfl
theorem ba_slot_extend : Slot "bytearray" "extend" "bytearray.extend" :=
  .of (owner := "bytearray") (n := "extend") (by rw [typeLookup_type, builtinLookup_eq_fast]; kernel_rfl) (by decide +kernel) (by decide +kernel) (by decide +kernel)
    (by first | exact .inl (by decide +kernel) | exact .inr (by decide +kernel)) (by rw [isSubtype_type]; kernel_rfl)
theorem ba_type_extend : typeOf (.builtin "bytearray.extend") = pure (.type "method_descriptor") := by show builtinType _ = _; rw [builtinType_eq_fast]; kernel_rfl
theorem ba_entry_extend : entryFor table "bytearray.extend" = some Builtin.«bytearray.extend» := entryFor_of_tree (by kernel_rfl)
theorem ba_args_extend (a b : Value) : argsOk "bytearray.extend" ⟨[a, b], []⟩ := by
  unfold argsOk; rw [signature?_of (id := "bytearray.extend") (n := ['d', 'n', 'e', 't', 'x', 'e']) (o := ['y', 'a', 'r', 'r', 'a', 'e', 't', 'y', 'b']) (by kernel_rfl) ba_owner]; kernel_rfl

section
variable {prog : Program} {w : World} {A : Around} {s : Shared}
theorem codeR_builtin {id : String} {args : Args} {b : Builtin} {Q : Flow → Shared → Prop} (hp : plainId id = true) (hb : entryFor table id = some b)
    (h : wpR (model prog w) A.in1 (b args) (fun fin s' => match fin with | .done f => Q f s' | .again c' => c'.quiet = true ∧ isDec c' = false ∧ codeR (model prog w) A c' Q s') s) :
    codeR (model prog w) A (.builtin id args) Q s := by
  refine codeR_of_tree ?_
  rw [Around.under_plainId hp args]
  show wpR _ _ (match entryFor table id with | some b => b args | none => unsupported ((withoutEnding? id "#data").getD id)) _ s
  rw [hb]; exact h
theorem codeR_call_builtin {id : String} {args : Args} {b : Builtin} {Q : Flow → Shared → Prop} (hp : plainId id = true) (hd : isDec (.builtin id args) = false) (hb : entryFor table id = some b)
    (h : wpAny (model prog w) A.in1 (checkBuiltinCall id args) (fun _ s₁ => wpR (model prog w) A.in1 (b args) (fun fin s' => match fin with | .done f => Q f s' | .again c' => c'.quiet = true ∧ isDec c' = false ∧ codeR (model prog w) A c' Q s') s₁) NF s) :
    codeR (model prog w) A (.call (.builtin id) args) Q s := by
  refine codeR_of_tree ?_
  show wpR _ A.in1 (do checkBuiltinCall id args; again (.builtin id args)) _ s
  exact wpR_bind (wpR_any (wpAny_mono h (fun _ s₁ h₁ => wpR_pure ⟨plainId_quiet hp _, hd, codeR_builtin hp hb h₁⟩) fun _ _ x => x))
theorem rMeth {T : String} {name : Str} {id : String} {b : Builtin} {self : Value} {rest : List Value} {Q : Value → Shared → Prop} (h : Slot T name id) (hT : s.TypeIs self T)
    (hb : entryFor table id = some b) (ha : argsOk id ⟨self :: rest, []⟩) (hd : isDec (.builtin id ⟨self :: rest, []⟩) = false)
    (hc : wpR (model prog w) A.in1 (b ⟨self :: rest, []⟩) (fun fin s' => ∃ v, fin = .done (.ret v) ∧ Q v s') s) :
    wpR (model prog w) A (call (.builtin id) (self :: rest)) Q s := by
  refine wpR_call (codeR_call_builtin h.plain hd hb (h.check _ _ _ _ _ _ _ _ hT ha (wpR_mono hc fun fin s' h' => ?_)))
  obtain ⟨v, rfl, hv⟩ := h'
  exact ⟨v, rfl, hv⟩

abbrev baObj (b : Array UInt8) : Obj := { cls := .type "bytearray", data := .bytearray b }
theorem ba_typeIs {a : Addr} {b : Array UInt8} (h : s.heap.get? a = some (baObj b)) : s.TypeIs (.ref a) "bytearray" := ⟨_, h, rfl⟩
theorem ba_write {a : Addr} {b : Array UInt8} {f : Array UInt8 → Array UInt8} {Q : Unit → Shared → Prop} {M : Model} {E : Value → Shared → Prop} (h : s.heap.get? a = some (baObj b)) (hz : (f b).size ≤ sizeLine)
    (hq : Q () { s with heap := s.heap.update a (Obj.mapBytearray f) }) : wpAny M A (Builtin.Bytes.write (.ref a) f) Q E s := by
  show wpAny _ _ (updateBytearray a f) _ _ _
  unfold updateBytearray
  refine wpAny_bind (wpAny_load h ?_)
  show wpAny _ _ (update a (Obj.mapBytearray f) >>= fun _ => lookBehind a) _ _ _
  refine wpAny_bind (wpAny_update h ?_)
  refine wpAny_lookBehind (o := baObj (f b)) (Heap.get?_update_self (Obj.mapBytearray f) h rfl) ?_ hq
  show (if (f b).size > sizeLine then some "bytearray:memory" else none) = none
  rw [if_neg (by omega)]
theorem rCheckResize {a : Addr} {b : Array UInt8} {Q : Unit → Shared → Prop} (hA : A.guards = some []) (h : s.heap.get? a = some (baObj b)) (hq : Q () s) : wpR (model prog w) A (Builtin.Bytes.checkResize (.ref a)) Q s := by
  unfold Builtin.Bytes.checkResize
  refine wpR_bind ?_
  unfold Builtin.Bytes.exportsOf
  show wpR _ _ (Builtin.Bytes.exported (.ref a) >>= fun b => _) _ _
  refine wpR_bind (rExported hA ?_)
  show wpR _ _ (load a >>= fun o => _) _ _
  refine wpR_bind (wpR_any (wpAny_load h ?_))
  exact wpR_pure (wpR_pure hq)
theorem dec_append {args : Args} : isDec (.builtin "bytearray.append" args) = false := by show Builtin.Bytes.decodersThatHold.contains "bytearray.append" = false; decide +kernel
theorem dec_extend {args : Args} : isDec (.builtin "bytearray.extend" args) = false := by show Builtin.Bytes.decodersThatHold.contains "bytearray.extend" = false; decide +kernel
theorem rAppend {a : Addr} {b : Array UInt8} {n : Int} {t : Tok} {Q : Value → Shared → Prop} (hA : A.guards = some []) (h : s.heap.get? a = some (baObj b)) (h0 : 0 ≤ n) (h1 : n < 256) (hz : b.size + 1 ≤ sizeLine)
    (hq : Q .none { s with heap := s.heap.update a (Obj.mapBytearray (·.push n.toNat.toUInt8)) }) : wpR (model prog w) A (call (.builtin "bytearray.append") [.ref a, .int n t]) Q s := by
  refine rMeth ba_slot_append (ba_typeIs h) ba_entry_append (ba_args_append _ _) dec_append ?_
  unfold Builtin.«bytearray.append»
  refine wpR_bind (wpR_any (wpAny_of_eq (a := (Value.ref a, Value.int n t)) rfl ?_))
  dsimp only
  unfold Builtin.Bytes.byteValue
  refine wpR_bind (wpR_any (wpAny_bind (wpAny_of_eq (rfl : asIndex (.int n t) = pure n) ?_)))
  dsimp only
  rw [if_neg (by simp only [Bool.or_eq_true, decide_eq_true_eq]; omega)]
  refine wpAny_pure (wpR_bind (rCheckResize hA h ?_))
  refine wpR_bind (wpR_any (ba_write h (by simpa using hz) ?_))
  exact wpR_pure ⟨_, rfl, hq⟩
section
variable {M : Model} {E : Value → Shared → Prop}
theorem slotOwn_some {v : Value} {T name id U : String} {Q : Bool → Shared → Prop} (hT : s.TypeIs v T) (hl : typeLookup (.type T) (Str.ofString name) = pure (some (.builtin id)))
    (he : id.endsWith ("." ++ name) = true) (hu : id.dropRight (name.length + 1) = U) (hsub : isSubtype (.type T) (.type U) = pure true) (h : Q true s) : wpAny M A (Builtin.Bytes.slotIsOwn v name) Q E s := by
  unfold Builtin.Bytes.slotIsOwn
  refine wpAny_bind (wpAny_specialOf hT hl ?_)
  dsimp only
  rw [he, hu]
  exact wpAny_isInstance hT hsub h
theorem slotOwn_none {v : Value} {T name : String} {Q : Bool → Shared → Prop} (hT : s.TypeIs v T) (hl : typeLookup (.type T) (Str.ofString name) = pure none) (h : Q true s) : wpAny M A (Builtin.Bytes.slotIsOwn v name) Q E s := by
  unfold Builtin.Bytes.slotIsOwn
  exact wpAny_bind (wpAny_specialOf hT hl (wpAny_pure h))
end
theorem by_buffer : typeLookup (.type "bytes") (Str.ofString "__buffer__") = pure (some (.builtin "bytes.__buffer__")) := by rw [typeLookup_type, builtinLookup_eq_fast]; kernel_rfl
theorem by_release : typeLookup (.type "bytes") (Str.ofString "__release_buffer__") = pure none := by rw [typeLookup_type, builtinLookup_eq_fast]; kernel_rfl
theorem by_sub : isSubtype (.type "bytes") (.type "bytes") = pure true := by rw [isSubtype_type]; kernel_rfl
theorem by_ends : "bytes.__buffer__".endsWith ("." ++ "__buffer__") = true := by decide +kernel
theorem by_drop : "bytes.__buffer__".dropRight ("__buffer__".length + 1) = "bytes" := by decide +kernel
theorem ba_buffer : typeLookup (.type "bytearray") (Str.ofString "__buffer__") = pure (some (.builtin "bytearray.__buffer__")) := by rw [typeLookup_type, builtinLookup_eq_fast]; kernel_rfl
theorem ba_release : typeLookup (.type "bytearray") (Str.ofString "__release_buffer__") = pure (some (.builtin "bytearray.__release_buffer__")) := by rw [typeLookup_type, builtinLookup_eq_fast]; kernel_rfl
theorem ba_sub : isSubtype (.type "bytearray") (.type "bytearray") = pure true := by rw [isSubtype_type]; kernel_rfl
theorem ba_ends1 : "bytearray.__buffer__".endsWith ("." ++ "__buffer__") = true := by decide +kernel
theorem ba_drop1 : "bytearray.__buffer__".dropRight ("__buffer__".length + 1) = "bytearray" := by decide +kernel
theorem ba_ends2 : "bytearray.__release_buffer__".endsWith ("." ++ "__release_buffer__") = true := by decide +kernel
theorem ba_drop2 : "bytearray.__release_buffer__".dropRight ("__release_buffer__".length + 1) = "bytearray" := by decide +kernel
section
variable {M : Model} {E : Value → Shared → Prop}
theorem payload_bytes {b : Array UInt8} {t : Tok} {Q : Array UInt8 → Shared → Prop} (h : Q b s) : wpAny M A (Builtin.Bytes.payload (.bytes b t)) Q E s := by
  unfold Builtin.Bytes.payload Builtin.Bytes.payload?
  exact wpAny_bind (wpAny_pure (wpAny_pure h))
theorem payload_ba {a : Addr} {b : Array UInt8} {Q : Array UInt8 → Shared → Prop} (ho : s.heap.get? a = some (baObj b)) (h : Q b s) : wpAny M A (Builtin.Bytes.payload (.ref a)) Q E s := by
  unfold Builtin.Bytes.payload Builtin.Bytes.payload?
  exact wpAny_bind (wpAny_bind (wpAny_load ho (wpAny_pure (wpAny_pure h))))
theorem buffer_bytes {id : String} {full : Bool} {b : Array UInt8} {t : Tok} {Q : Option (Array UInt8) → Shared → Prop} (h : Q (some b) s) : wpAny M A (Builtin.Bytes.buffer? id (.bytes b t) full) Q E s := by
  have hT : s.TypeIs (.bytes b t) "bytes" := typeIs_bytes _ _ _
  unfold Builtin.Bytes.buffer?
  refine wpAny_bind (wpAny_specialOf hT by_buffer ?_)
  refine wpAny_bind (slotOwn_some hT by_buffer by_ends by_drop by_sub ?_)
  refine bm_if_false rfl ?_
  refine wpAny_bind (wpAny_specialOf hT by_buffer ?_)
  (try dsimp only)
  unfold Builtin.Bytes.ownRelease
  refine wpAny_bind (wpAny_bind (slotOwn_none hT by_release (wpAny_pure ?_)))
  refine bm_if_false rfl ?_
  exact wpAny_bind (payload_bytes (wpAny_pure h))
theorem buffer_ba {id : String} {full : Bool} {a : Addr} {b : Array UInt8} {Q : Option (Array UInt8) → Shared → Prop} (ho : s.heap.get? a = some (baObj b)) (h : Q (some b) s) : wpAny M A (Builtin.Bytes.buffer? id (.ref a) full) Q E s := by
  have hT : s.TypeIs (.ref a) "bytearray" := ba_typeIs ho
  unfold Builtin.Bytes.buffer?
  refine wpAny_bind (wpAny_specialOf hT ba_buffer ?_)
  refine wpAny_bind (slotOwn_some hT ba_buffer ba_ends1 ba_drop1 ba_sub ?_)
  refine bm_if_false rfl ?_
  refine wpAny_bind (wpAny_specialOf hT ba_buffer ?_)
  (try dsimp only)
  unfold Builtin.Bytes.ownRelease
  refine wpAny_bind (wpAny_bind (slotOwn_some hT ba_release ba_ends2 ba_drop2 ba_sub (wpAny_pure ?_)))
  refine bm_if_false rfl ?_
  exact wpAny_bind (payload_ba ho (wpAny_pure h))
theorem take_bytes {id : String} {k : Int} {b : Array UInt8} {t : Tok} {Q : Option (Array UInt8 × Option Value) → Shared → Prop} (h : Q (some (b, none)) s) : wpAny M A (Builtin.Bytes.takeBufferQuiet? id (.bytes b t) k) Q E s := by
  have hT : s.TypeIs (.bytes b t) "bytes" := typeIs_bytes _ _ _
  unfold Builtin.Bytes.takeBufferQuiet? Builtin.Bytes.takeBuffer?
  refine wpAny_bind (wpAny_attempt ?_)
  refine wpAny_bind (wpAny_specialOf hT by_buffer ?_)
  dsimp only
  refine wpAny_bind (slotOwn_some hT by_buffer by_ends by_drop by_sub ?_)
  refine bm_if_false rfl ?_
  refine wpAny_bind (wpAny_specialOf hT by_buffer ?_)
  (try dsimp only)
  exact wpAny_bind (buffer_bytes (wpAny_pure (wpAny_pure h)))
end
theorem rExtend {a : Addr} {b more : Array UInt8} {t : Tok} {Q : Value → Shared → Prop} (hA : A.guards = some []) (h : s.heap.get? a = some (baObj b)) (hz : b.size + more.size ≤ sizeLine)
    (hq : Q .none { s with heap := s.heap.update a (Obj.mapBytearray (· ++ more)) }) : wpR (model prog w) A (call (.builtin "bytearray.extend") [.ref a, .bytes more t]) Q s := by
  refine rMeth ba_slot_extend (ba_typeIs h) ba_entry_extend (ba_args_extend _ _) dec_extend ?_
  unfold Builtin.«bytearray.extend»
  refine wpR_bind (wpR_any (wpAny_of_eq (a := (Value.ref a, Value.bytes more t)) rfl ?_))
  dsimp only
  have hT : s.TypeIs (.bytes more t) "bytes" := typeIs_bytes _ _ _
  refine wpR_bind (wpR_any (wpAny_specialOf hT by_buffer ?_))
  dsimp only [Option.isSome]
  rw [if_pos rfl]
  refine wpR_bind (wpR_any (wpAny_rule ?_))
  refine wpR_bind (wpR_any (payload_ba h ?_))
  refine wpR_bind (wpR_any (take_bytes ?_))
  dsimp only [Option.isNone]
  rw [if_pos rfl]
  show wpR _ _ (do
    if !more.isEmpty then Builtin.Bytes.checkResize (.ref a)
    Builtin.Bytes.write (.ref a) (· ++ more)
    ret .none) _ _
  have fin : wpR (model prog w) A.in1 (do Builtin.Bytes.write (.ref a) (· ++ more); ret .none) (fun fin s' => ∃ v, fin = Fin.done (Flow.ret v) ∧ Q v s') s :=
    wpR_bind (wpR_any (ba_write h (by simpa using hz) (wpR_pure ⟨_, rfl, hq⟩)))
  by_cases hm : (!more.isEmpty) = true
  · rw [if_pos hm]
    exact wpR_bind (rCheckResize hA h fin)
  · rw [if_neg hm]
    exact fin

/-! bytearray() -/
theorem ba_mro : mroOf (.type "bytearray") = pure [.type "bytearray", .type "object"] := by rw [mroOf_type]; kernel_rfl
theorem ba_lookup_new : typeLookup (.type "bytearray") "__new__" = pure (some (.builtin "bytearray.__new__")) := by rw [typeLookup_type, builtinLookup_eq_fast]; kernel_rfl
theorem ba_slot_init : Slot "bytearray" "__init__" "bytearray.__init__" :=
  .of (owner := "bytearray") (n := "__init__") (by rw [typeLookup_type, builtinLookup_eq_fast]; kernel_rfl) (by decide +kernel) (by decide +kernel) (by decide +kernel)
    (by first | exact .inl (by decide +kernel) | exact .inr (by decide +kernel)) (by rw [isSubtype_type]; kernel_rfl)
theorem ba_called : TypeCalled "bytearray" "bytearray.__new__" "bytearray.__init__" :=
  ⟨by decide +kernel, by decide +kernel, ⟨_, _, ba_mro⟩, madeBy_type ba_mro ba_lookup_new (by decide +kernel), by decide +kernel, by rw [isSubtype_type]; kernel_rfl, ba_slot_init⟩
theorem ba_typeCall : checkTypeCall "bytearray" ⟨[], []⟩ = pure () := by kernel_rfl
theorem ba_newCall : checkBuiltinCall "bytearray.__new__" ⟨[.type "bytearray"], []⟩ = pure () := by kernel_rfl
theorem ba_alias {id a : String} {b : Builtin} (h1 : treeTable id = none) (h2 : id.cutAt '#' = [id]) (h3 : (id.map fun c => if c.isAlphanum || c == '_' || c == '.' then c else '_') = id) (h4 : Manifest.canonical id = a) (h5 : treeTable a = some b) : entryFor table id = some b := by
  unfold entryFor
  rw [table_eq_tree]
  simp only [h1, h2, h3, h4, String.append_empty, h5]
theorem ba_new1 : treeTable "bytearray.__new__" = none := by kernel_rfl
theorem ba_new2 : treeTable "list.__new__" = some Builtin.«list.__new__» := by kernel_rfl
theorem ba_new3 : Manifest.canonical "bytearray.__new__" = "list.__new__" := by decide +kernel
theorem ba_new4 : ("bytearray.__new__" : String).cutAt '#' = ["bytearray.__new__"] := by decide +kernel
theorem ba_new5 : (("bytearray.__new__" : String).map fun c => if c.isAlphanum || c == '_' || c == '.' then c else '_') = "bytearray.__new__" := by decide +kernel
theorem ba_entry_new : entryFor table "bytearray.__new__" = some Builtin.«list.__new__» := ba_alias ba_new1 ba_new4 ba_new5 ba_new3 ba_new2
theorem ba_plain_new : plainId "bytearray.__new__" = true := by decide +kernel
theorem ba_entry_init : entryFor table "bytearray.__init__" = some Builtin.«bytearray.__init__» := entryFor_of_tree (by kernel_rfl)
theorem ba_args_init (a : Value) : argsOk "bytearray.__init__" ⟨[a], []⟩ := by
  unfold argsOk; rw [signature?_of (id := "bytearray.__init__") (n := ['_', '_', 't', 'i', 'n', 'i', '_', '_']) (o := ['y', 'a', 'r', 'r', 'a', 'e', 't', 'y', 'b']) (by kernel_rfl) ba_owner]; kernel_rfl
theorem ba_owner_new : ("bytearray.__new__".splitOn ".__new__").headD "" = "bytearray" := by simp +decide [String.splitOn, String.splitOnAux]
theorem ba_new_code {E : Value → Shared → Prop} {Q₁ : Value → Shared → Prop}
    (h : Q₁ (.ref s.heap.objs.size) { s with heap := s.heap.push (baObj #[]) }) :
    codeAny (model prog w) A (.call (.builtin "bytearray.__new__") ⟨[.type "bytearray"], []⟩) (wants Q₁ E) s := by
  refine codeAny_of_tree ?_
  show wpAny _ A.in1 (do checkBuiltinCall "bytearray.__new__" ⟨[.type "bytearray"], []⟩; again (.builtin "bytearray.__new__" ⟨[.type "bytearray"], []⟩)) _ _ s
  refine wpAny_bind (wpAny_of_eq ba_newCall (wpAny_pure ⟨plainId_quiet ba_plain_new _, codeAny_builtin_stack ba_entry_new rfl fun p st => ?_⟩))
  rw [Around.under_plainId ba_plain_new _]
  have hsub := ba_sub
  have hown := ba_owner_new
  obtain ⟨hp, g, d, tk, os⟩ := s
  simp only [hown]
  wp_walk
  exact h
end
end Mine
end

section
open PySem PySem.W PyProof.Rows
set_option maxRecDepth 100000
set_option maxHeartbeats 8000000
set_option linter.unusedVariables false
set_option linter.unusedSimpArgs false
namespace Mine
section
variable {prog : Program} {w : World} {A : Around} {s : Shared}
theorem rIfF {α : Type} {M : Model} {c : Bool} {a b : Sem α} {Q : α → Shared → Prop} (hc : c = false) (h : wpR M A b Q s) : wpR M A (if c = true then a else b) Q s := by
  subst hc; exact h
theorem rIfT {α : Type} {M : Model} {c : Bool} {a b : Sem α} {Q : α → Shared → Prop} (hc : c = true) (h : wpR M A a Q s) : wpR M A (if c = true then a else b) Q s := by
  subst hc; exact h
theorem dec_init {args : Args} : isDec (.builtin "bytearray.__init__" args) = false := by show Builtin.Bytes.decodersThatHold.contains "bytearray.__init__" = false; decide +kernel
theorem dec_typecall {args : Args} : isDec (.builtin "type.__call__" args) = false := by show Builtin.Bytes.decodersThatHold.contains "type.__call__" = false; decide +kernel
theorem ba_bind : Builtin.Bytes.bindOptional "bytearray.__init__" "bytearray" ["source", "encoding", "errors"] [] [] = pure [none, none, none] := by kernel_rfl
theorem rInit {a : Addr} {Q : Shared → Prop} (hA : A.guards = some []) (h : s.heap.get? a = some (baObj #[]))
    (hq : Q { s with heap := s.heap.update a (Obj.mapBytearray (fun _ => #[])) }) : wpR (model prog w) A (Builtin.«bytearray.__init__» ⟨[.ref a], []⟩) (fun fin s' => fin = .done (.ret .none) ∧ Q s') s := by
  have hT : s.TypeIs (.ref a) "bytearray" := ba_typeIs h
  unfold Builtin.«bytearray.__init__»
  dsimp only
  unfold Builtin.Bytes.ownRelease
  refine wpR_bind (wpR_any (wpAny_bind (slotOwn_some hT ba_release ba_ends2 ba_drop2 ba_sub (wpAny_pure ?_))))
  refine rIfF rfl ?_
  refine wpR_bind (wpR_any (wpAny_of_eq ba_bind ?_))
  dsimp only
  refine wpR_bind (wpR_any (wpAny_of_eq (a := ()) rfl ?_))
  refine wpR_bind (wpR_any (wpAny_of_eq (a := ()) rfl ?_))
  refine wpR_bind ?_
  show wpR _ _ (Builtin.Bytes.exported (.ref a) >>= fun b => _) _ _
  refine wpR_bind (rExported hA ?_)
  show wpR _ _ (Builtin.Bytes.exportsOf (.ref a) >>= fun o => _) _ _
  unfold Builtin.Bytes.exportsOf
  refine wpR_bind (wpR_any (wpAny_bind (wpAny_load h (wpAny_pure (wpR_pure ?_)))))
  refine rIfF (by decide) ?_
  refine wpR_bind (wpR_any (ba_write h (by simp) ?_))
  refine wpR_bind (rIfF rfl (rIfF rfl (wpR_pure ?_)))
  exact wpR_pure ⟨rfl, hq⟩
theorem codeR_builtin_at {id : String} {args : Args} {b : Builtin} {Q : Flow → Shared → Prop} (hb : entryFor table id = some b)
    (h : wpR (model prog w) (A.under (.builtin id args)) (b args) (fun fin s' => match fin with | .done f => Q f s' | .again c' => c'.quiet = true ∧ isDec c' = false ∧ codeR (model prog w) A c' Q s') s) :
    codeR (model prog w) A (.builtin id args) Q s := by
  refine codeR_of_tree ?_
  show wpR _ _ (match entryFor table id with | some b => b args | none => unsupported ((withoutEnding? id "#data").getD id)) _ s
  rw [hb]; exact h
theorem rNew {Q : Value → Shared → Prop} (hA : A.guards = some [])
    (hq : Q (.ref s.heap.objs.size) { s with heap := (s.heap.push (baObj #[])).update s.heap.objs.size (Obj.mapBytearray (fun _ => #[])) }) : wpR (model prog w) A (call (.type "bytearray") []) Q s := by
  have ft := ba_called
  obtain ⟨c, tl, hmro⟩ := ft.mro
  refine wpR_call (codeR_of_tree ?_)
  show wpR _ _ (callAny (.type "bytearray") _) _ _
  refine wpR_pure ⟨Code.quiet_builtin _ (by decide +kernel), dec_typecall, codeR_builtin_at F.entry_type_call ?_⟩
  rw [Around.under_plain (weight_type_call_type "bytearray" [] []) rfl]
  show wpR _ _ (Builtin.«type.__call__» ⟨[.type "bytearray"], []⟩) _ _
  unfold Builtin.«type.__call__»
  dsimp only
  refine rIfF ft.notType ?_
  refine rIfF ft.canCreate ?_
  refine wpR_bind (wpR_any (wpAny_of_eq ba_typeCall ?_))
  refine wpR_bind (wpR_any (wpAny_of_eq hmro ?_))
  refine rIfF rfl ?_
  refine wpR_bind (wpR_any (wpAny_of_eq ft.made ?_))
  dsimp only
  refine wpR_bind (wpR_pure ?_)
  refine wpR_bind (wpR_holding (wpR_any (wpAny_call (ba_new_code ?_))))
  have ho : (s.heap.push (baObj #[])).get? s.heap.objs.size = some (baObj #[]) := Heap.get?_push_size _ rfl
  have hT : Shared.TypeIs { s with heap := s.heap.push (baObj #[]) } (.ref s.heap.objs.size) "bytearray" := ba_typeIs ho
  refine wpR_bind (wpR_any (wpAny_isInstance hT ba_sub ?_))
  refine rIfF rfl ?_
  refine wpR_bind (wpR_holding ?_)
  unfold callSpecial?
  refine wpR_bind (wpR_any (wpAny_specialOf hT ba_slot_init.lookup ?_))
  refine wpR_holding (wpR_bind (wpR_any (wpAny_of_eq (ba_slot_init.bind _) ?_)))
  dsimp only
  refine wpR_bind (wpR_call (codeR_call_builtin ba_slot_init.plain dec_init ba_entry_init (ba_slot_init.check _ _ _ _ _ _ _ _ hT (ba_args_init _) (wpR_mono (rInit hA ho hq) fun fin s' h' => ?_))))
  obtain ⟨rfl, hq'⟩ := h'
  exact ⟨_, rfl, wpR_pure (rIfF rfl (wpR_pure ⟨_, rfl, hq'⟩))⟩
end
end Mine
end

section
open PySem PySem.W PyProof.Rows
set_option maxRecDepth 100000
set_option maxHeartbeats 8000000
set_option linter.unusedVariables false
set_option linter.unusedSimpArgs false
namespace Mine
theorem ba_no_bytes : typeLookup (.type "bytearray") "__bytes__" = pure none := by rw [typeLookup_type, builtinLookup_eq_fast]; kernel_rfl
theorem ba_no_index : typeLookup (.type "bytearray") "__index__" = pure none := by rw [typeLookup_type, builtinLookup_eq_fast]; kernel_rfl
section
variable {prog : Program} {w : World} {A : Around} {s : Shared} {E : Value → Shared → Prop}
theorem by_new {a : Addr} {b : Array UInt8} {Q : Value → Shared → Prop} (h : s.heap.get? a = some (baObj b)) (hz : b.size ≤ sizeLine)
    (hQ : Q (.bytes b s.toks) { s with toks := s.toks + 1 }) :
    codeAny (model prog w) A (.call (.builtin "bytes.__new__") ⟨[.type "bytes", .ref a], []⟩) (wants Q E) s := by
  refine codeAny_of_tree ?_
  show wpAny _ A.in1 (do checkBuiltinCall "bytes.__new__" ⟨[.type "bytes", .ref a], []⟩; again (.builtin "bytes.__new__" ⟨[.type "bytes", .ref a], []⟩)) _ _ s
  refine wpAny_bind (wpAny_of_eq (F.bm_newCall _) (wpAny_pure ⟨plainId_quiet F.bm_plain _, codeAny_builtin F.bm_entry ?_⟩))
  rw [Around.under_plainId F.bm_plain _]
  have hT : s.TypeIs (.ref a) "bytearray" := ba_typeIs h
  unfold Builtin.«bytes.__new__»
  refine wpAny_bind (wpAny_of_eq (a := true) rfl ?_)
  refine bm_if_false rfl ?_
  refine wpAny_bind (wpAny_of_eq F.bm_sub ?_)
  refine bm_if_false rfl ?_
  refine wpAny_bind (wpAny_of_eq (F.bm_bind _) ?_)
  refine wpAny_bind (wpAny_of_eq (a := ()) rfl ?_)
  refine wpAny_bind (wpAny_of_eq (a := ()) rfl ?_)
  refine bm_if_false rfl ?_
  refine wpAny_bind (wpAny_specialOf hT ba_no_bytes ?_)
  refine wpAny_bind (wpAny_bind ?_)
  show wpAny _ _ (load a >>= _) _ _ _
  refine wpAny_bind (wpAny_load h ?_)
  refine wpAny_pure (wpAny_pure ?_)
  refine bm_if_false rfl ?_
  refine wpAny_bind (wpAny_specialOf hT ba_no_index ?_)
  refine bm_if_true rfl ?_
  first
    | show wpAny _ _ (Builtin.Bytes.buffer? "bytes.__new__" (.ref a) true >>= _) _ _ _
    | (refine wpAny_bind ?_; show wpAny _ _ (Builtin.Bytes.buffer? "bytes.__new__" (.ref a) true >>= _) _ _ _)
  refine wpAny_bind (buffer_ba h ?_)
  refine wpAny_bind (wpAny_rule (wpAny_bind (wpAny_mkBytes ?_ hz)))
  show wpAny _ _ (if (Value.type "bytes" == Value.type "bytes") = true then _ else _) _ _ _
  refine bm_if_true (by decide) ?_
  first
    | exact wpAny_pure hQ
    | exact wpAny_bind (wpAny_pure (wpAny_pure hQ))
theorem call_bytes_ba {a : Addr} {b : Array UInt8} {Q : Value → Shared → Prop} (h : s.heap.get? a = some (baObj b)) (hz : b.size ≤ sizeLine)
    (hQ : Q (.bytes b s.toks) { s with toks := s.toks + 1 }) : wpAny (model prog w) A (call (.type "bytes") [.ref a]) Q E s := by
  refine callType_codes (Q₁ := fun obj s₁ => s₁.TypeIs obj "bytes" ∧ Q obj s₁) F.bm_called (F.bm_typeCall _) F.entry_object_init
    (by_new h hz ⟨PySem.W.typeIs_bytes _ _ _, hQ⟩) fun obj s₁ h₁ => ?_
  exact ⟨h₁.1, F.args_object_init_2 obj _, object_init_meets F.bm_called.init.lookup F.bm_called.made (by decide) prog w A.in1 _ s₁ ⟨h₁.1, rfl, h₁.2⟩⟩

/-! bytes.upper -/
theorem by_plainAttrs : PlainAttrs "bytes" :=
  ⟨⟨"bytes.__getattribute__", by rw [typeLookup_type, builtinLookup_eq_fast]; kernel_rfl, by decide +kernel⟩, by rw [typeLookup_type, builtinLookup_eq_fast]; kernel_rfl⟩
theorem by_owner : Manifest.owners.lookup (String.ofList ['s', 'e', 't', 'y', 'b'].reverse) = some Manifest.sig_bytes := by kernel_rfl
theorem by_slot_upper : Slot "bytes" "upper" "bytes.upper" :=
  .of (owner := "bytes") (n := "upper") (by rw [typeLookup_type, builtinLookup_eq_fast]; kernel_rfl) (by decide +kernel) (by decide +kernel) (by decide +kernel)
    (by first | exact .inl (by decide +kernel) | exact .inr (by decide +kernel)) (by rw [isSubtype_type]; kernel_rfl)
theorem by_type_upper : typeOf (.builtin "bytes.upper") = pure (.type "method_descriptor") := by show builtinType _ = _; rw [builtinType_eq_fast]; kernel_rfl
theorem by_entry_upper : entryFor table "bytes.upper" = some Builtin.«bytes.upper» := entryFor_of_tree (by kernel_rfl)
theorem by_args_upper (a : Value) : argsOk "bytes.upper" ⟨[a], []⟩ := by
  unfold argsOk; rw [signature?_of (id := "bytes.upper") (n := ['r', 'e', 'p', 'p', 'u']) (o := ['s', 'e', 't', 'y', 'b']) (by kernel_rfl) by_owner]; kernel_rfl
def upB (b : Array UInt8) : Array UInt8 := (b.toList.map Builtin.Bytes.toUpper).toArray
theorem call_upper {b : Array UInt8} {t : Tok} {Q : Value → Shared → Prop} (hz : b.size ≤ sizeLine)
    (hQ : Q (.bytes (upB b) s.toks) { s with toks := s.toks + 1 }) : wpAny (model prog w) A (call (.builtin "bytes.upper") [.bytes b t]) Q E s := by
  refine wpAny_call_entry by_slot_upper (PySem.W.typeIs_bytes _ _ _) by_entry_upper ?_ (by_args_upper _)
  unfold Builtin.«bytes.upper» Builtin.Bytes.mappedM
  refine wpAny_bind (wpAny_of_eq (a := Value.bytes b t) rfl ?_)
  refine wpAny_bind (payload_bytes ?_)
  refine wpAny_bind (wpAny_mkBytes ?_ (by simpa using hz))
  exact wpAny_pure ⟨_, rfl, hQ⟩
theorem meth_upper {b : Array UInt8} {t : Tok} {pl : Sem Bool} {Q : Value × List Value → Shared → Prop} {M : Model} (h : Q (.builtin "bytes.upper", [.bytes b t]) s) : wpAny M A (getMethod (.bytes b t) "upper" pl) Q E s :=
  getMethod_builtin (PySem.W.typeIs_bytes _ _ _) by_plainAttrs by_slot_upper by_type_upper (fun _ e => nomatch e) h
theorem meth_append {a : Addr} {b : Array UInt8} {pl : Sem Bool} {Q : Value × List Value → Shared → Prop} {M : Model} (ho : s.heap.get? a = some (baObj b)) (h : Q (.builtin "bytearray.append", [.ref a]) s) : wpAny M A (getMethod (.ref a) "append" pl) Q E s :=
  getMethod_builtin (ba_typeIs ho) ba_plainAttrs ba_slot_append ba_type_append (fun a' e => by cases e; exact ⟨_, ho, rfl⟩) h
theorem meth_extend {a : Addr} {b : Array UInt8} {pl : Sem Bool} {Q : Value × List Value → Shared → Prop} {M : Model} (ho : s.heap.get? a = some (baObj b)) (h : Q (.builtin "bytearray.extend", [.ref a]) s) : wpAny M A (getMethod (.ref a) "extend" pl) Q E s :=
  getMethod_builtin (ba_typeIs ho) ba_plainAttrs ba_slot_extend ba_type_extend (fun a' e => by cases e; exact ⟨_, ho, rfl⟩) h
end
end Mine
end

section
open PySem PySem.W PyProof.Rows
set_option maxRecDepth 100000
set_option maxHeartbeats 8000000
set_option linter.unusedVariables false
set_option linter.unusedSimpArgs false
namespace Mine

def FEnd {σ : Type} (h₀ : Heap) (L : Addr) (s : Shared) (Led : σ → List (Addr × Obj)) (ps : σ → List (Str × Value)) (P : σ → Prop) (own : List (Addr × Obj)) (s₂ : Shared) : Prop :=
  ∃ (c' : σ) (h' : Heap) (tk : Nat) (m' : Str → Option Value) (news' : List (Addr × Obj)), s₂ = { s with heap := h', toks := tk } ∧ Fr h₀ L h' m' ∧ News h₀ L h' news' ∧ (∀ p ∈ Led c', p ∈ news') ∧ (∀ p ∈ own, p ∈ news') ∧ (∀ p ∈ ps c', m' p.1 = some p.2) ∧ P c'
def FPost {σ : Type} (h₀ : Heap) (L : Addr) (s : Shared) (Led : σ → List (Addr × Obj)) (ps : σ → List (Str × Value)) (P : σ → Prop) (own : List (Addr × Obj)) (Q : Flow → Shared → Prop) (f : Flow) (s₂ : Shared) : Prop :=
  match f with
  | .ret v => Q (.ret v) s₂
  | .brk => Q .next s₂
  | _ => FEnd h₀ L s Led ps P own s₂
theorem f_end {σ : Type} {h₀ : Heap} {L : Addr} {s : Shared} {Led : σ → List (Addr × Obj)} {ps : σ → List (Str × Value)} {m' : Str → Option Value} {P : σ → Prop} {own : List (Addr × Obj)} {h' : Heap} {tk : Nat} {news' : List (Addr × Obj)} (c' : σ)
    (F : Fr h₀ L h' m') (N : News h₀ L h' news') (hn : ∀ p ∈ Led c', p ∈ news') (ho : ∀ p ∈ own, p ∈ news') (hk : ∀ p ∈ ps c', m' p.1 = some p.2) (hp : P c') :
    FEnd h₀ L s Led ps P own { s with heap := h', toks := tk } := ⟨c', h', tk, m', news', rfl, F, N, hn, ho, hk, hp⟩

section
variable {prog : Program} {w : World} {A : Around} {Q : Flow → Shared → Prop} {s : Shared} {env : Env} {h₀ : Heap}
theorem codeR_block_nil {Q : Flow → Shared → Prop} (h : Q .next s) : codeR (model prog w) A (.block [] env) Q s := by
  refine codeR_of_tree ?_
  rw [Around.under_of_weight rfl]
  show wpR _ A (do return PySem.Fin.done (← (execs [] env).onRaise (fun x => do noteFrame x env; theTreesLotGoes x))) _ s
  exact wpR_bind (wpR_onRaise (rExecs_nil (wpR_pure h)))
theorem rFor {target iter : Expr} {body : List Stmt} {pos : Pos}
    (h : wpAny (model prog w) A (eval iter env) (fun x s₁ => wpAny (model prog w) A (pyIter x) (fun it s₂ => codeR (model prog w) A (.forLoop target it body [] env) Q s₂) NF s₁) NF s)
    (hs : ∀ x, foldedSetIterable iter env x = pure x := by intro _; rfl) : wpR (model prog w) A (exec (.For target iter body [] pos) env) Q s := by
  rw [exec_For]
  refine wpR_standAt (wpR_bind (wpR_any (wpAny_mono h (fun x s₁ h₁ => ?_) fun _ _ y => y)))
  refine wpR_bind (wpR_any (wpAny_of_eq (hs x) (wpR_standAt (wpR_bind (wpR_holding (wpR_any (wpAny_mono h₁ (fun it s₂ h₂ => ?_) fun _ _ y => y)))))))
  exact wpR_runOwn rfl h₂
theorem codeR_for {σ : Type} {target : Expr} {body : List Stmt} {I : Addr} {fp wr : List Addr} {n : Nat} {Pi Md : Nat → Value → Heap → Prop} {St : Nat → Heap → Prop} {m₀ : Str → Option Value}
    (Led : σ → List (Addr × Obj)) (ps : σ → List (Str × Value)) (P : Nat → σ → Prop) (c₀ : σ)
    (W : KTurns prog w A target I fp wr n Pi Md St) (hLf : env.locals ∉ fp) (hwr : ∀ b ∈ wr, h₀.get? b = none) (hnw : ∀ c, ∀ p ∈ Led c, p.1 ∉ wr)
    (hst : St 0 s.heap) (F : Fr h₀ env.locals s.heap m₀) (N : News h₀ env.locals s.heap (Led c₀)) (hk : ∀ p ∈ ps c₀, m₀ p.1 = some p.2) (hp : P 0 c₀)
    (turn : ∀ (c : σ) (i : Nat) (v : Value) (u : Str → Option Value) h tk own, i < n → Pi i v h → P i c → (∀ p ∈ own, p.1 ∈ fp) → Fr h₀ env.locals h (kstB u (ps c)) → News h₀ env.locals h (Led c ++ own) →
      wpAny (model prog w) A (assign target env v) (fun _ s₂ => wpR (model prog w) A (execs body env) (FPost h₀ env.locals s Led ps (P (i + 1)) own Q) s₂) NF { s with heap := h, toks := tk })
    (done : ∀ (c : σ) (u : Str → Option Value) h tk, P n c → Fr h₀ env.locals h (kstB u (ps c)) → News h₀ env.locals h (Led c) → Q .next { s with heap := h, toks := tk }) :
    codeR (model prog w) A (.forLoop target (.ref I) body [] env) Q s := by
  have hLw : env.locals ∉ wr := fun h => hLf (W.sub _ h)
  have old : ∀ b o, h₀.get? b = some o → b ∉ wr := fun b o e hb => by rw [hwr b hb] at e; cases e
  have key : ∀ (k i : Nat) (c : σ) (m : Str → Option Value) h tk, n - i = k → i ≤ n → St i h → P i c → Fr h₀ env.locals h m → (∀ p ∈ ps c, m p.1 = some p.2) → News h₀ env.locals h (Led c) →
      codeR (model prog w) A (.forLoop target (.ref I) body [] env) Q { s with heap := h, toks := tk } := by
    intro k
    induction k with
    | zero =>
      intro i c m h tk hki hin hS hP F₁ hk₁ N₁
      obtain rfl : i = n := by omega
      refine codeR_of_tree ?_
      rw [Around.under_of_weight rfl]
      show wpR _ A ((forTurn target (.ref I) body [] env).onRaise (fun x => do noteFrame x env; theTreesLotGoes x)) _ _
      refine wpR_onRaise ?_
      unfold forTurn
      refine wpR_standAt (wpR_bind (wpR_onRaise (wpR_any (W.done _ _ _ hS fun h' tk' hk' => ?_))))
      refine wpR_pure ⟨rfl, rfl, codeR_block_nil ?_⟩
      exact done c m h' tk' hP (fr_kstB hk₁ ⟨F₁.ns.at' fun o e => hk' _ o hLw e, fun b o e => hk' b o (old b o e) (F₁.keep b o e), F₁.above⟩) fun p hp => ⟨hk' _ _ (hnw c p hp) (N₁ p hp).1, (N₁ p hp).2⟩
    | succ k ih =>
      intro i c m h tk hki hin hS hP F₁ hk₁ N₁
      have hlt : i < n := by omega
      refine codeR_of_tree ?_
      rw [Around.under_of_weight rfl]
      show wpR _ A ((forTurn target (.ref I) body [] env).onRaise (fun x => do noteFrame x env; theTreesLotGoes x)) _ _
      refine wpR_onRaise ?_
      unfold forTurn
      refine wpR_standAt (wpR_bind (wpR_onRaise (wpR_any (W.item i _ _ _ hlt hS fun v h' tk' hMd hk' => ?_))))
      refine wpR_bind (wpR_any (W.go i v _ _ _ hMd fun h₂ hPi hS₂ hk₂ => ?_))
      have hk₃ : ∀ b o, b ∉ wr → h.get? b = some o → h₂.get? b = some o := fun b o hb e => hk₂ b o hb (hk' b o hb e)
      have F₂ : Fr h₀ env.locals h₂ m := ⟨F₁.ns.at' fun o e => hk₃ _ o hLw e, fun b o e => hk₃ b o (old b o e) (F₁.keep b o e), F₁.above⟩
      have N₂ : News h₀ env.locals h₂ (Led c) := fun p hp => ⟨hk₃ _ _ (hnw c p hp) (N₁ p hp).1, (N₁ p hp).2⟩
      have Nown : News h₀ env.locals h₂ (PyProof.Rows.ownOf h₀ fp h₂) := news_ownOf hLf
      refine wpR_bind (wpR_any (wpAny_mono (turn c i v m h₂ tk' (PyProof.Rows.ownOf h₀ fp h₂) hlt hPi hP ownOf_sub (fr_kstB hk₁ F₂) (N₂.append Nown)) (fun _ s₂ hb => ?_) fun _ _ x => x))
      have fin : ∀ s₃, FEnd h₀ env.locals s Led ps (P (i + 1)) (PyProof.Rows.ownOf h₀ fp h₂) s₃ → codeR (model prog w) A (.forLoop target (.ref I) body [] env) Q s₃ := by
        rintro s₃ ⟨c', h₃, tk₃, m', news', rfl, F₃, N₃, hn', ho', hk9, hP'⟩
        refine ih (i + 1) c' m' h₃ tk₃ (by omega) hlt ?_ hP' F₃ hk9 fun p hp => N₃ p (hn' p hp)
        refine W.frame _ _ _ hS₂ fun b hb o e => ?_
        cases hn : h₀.get? b with
        | some o₀ =>
          have : o₀ = o := by have q := F₂.keep b o₀ hn; rw [e] at q; exact (Option.some.inj q).symm
          exact this ▸ F₃.keep b o₀ hn
        | none => exact (N₃ _ (ho' _ (mem_ownOf hb hn e))).1
      refine wpR_bind (wpR_mono hb fun f s₃ q => ?_)
      cases f with
      | ret v => exact wpR_pure q
      | brk => exact wpR_pure q
      | next => exact wpR_pure ⟨rfl, rfl, fin _ q⟩
      | cont => exact wpR_pure ⟨rfl, rfl, fin _ q⟩
  exact key n 0 c₀ m₀ s.heap s.toks rfl (Nat.zero_le _) hst hp F hk N
end
end Mine
end

section
open PySem PySem.W PyProof.Rows
namespace Mine
theorem filterMap_range (l : Array Nat) : ∀ (n s : Nat), s + n ≤ l.size → ((List.range n).map (fun i => s + i)).filterMap (l[·]?) = (l.toList.drop s).take n
  | 0, _, _ => by simp
  | n + 1, s, h => by
    rw [List.range_succ_eq_map, List.map_cons, List.filterMap_cons]
    have h0 : s < l.size := by omega
    have h1 : s < l.toList.length := by simpa using h0
    rw [show s + 0 = s from rfl, Array.getElem?_eq_getElem h0]
    simp only
    rw [List.map_map]
    have e : (List.map ((fun i => s + i) ∘ Nat.succ) (List.range n)) = (List.range n).map (fun i => (s + 1) + i) := by
      apply List.map_congr_left; intro i _; simp; omega
    rw [e, filterMap_range l n (s + 1) (by omega), List.drop_eq_getElem_cons h1, List.take_succ_cons]
    simp

theorem sliceIx (lo hi : Int) (n : Nat) (h0 : 0 ≤ lo) (h1 : lo ≤ hi) (h2 : hi ≤ n) : sliceRange lo hi 1 = (List.range (hi - lo).toNat).map (fun i => lo.toNat + i) := by
  unfold sliceRange
  simp only [show (1 : Int) > 0 by decide, if_true, Int.ediv_one]
  have e : (if lo < hi then hi - lo + 1 - 1 else 0 : Int).toNat = (hi - lo).toNat := by split <;> omega
  rw [e]
  apply List.map_congr_left
  intro i _
  omega

theorem slice_of {b : Str} {l u : Option Int} {lo hi : Int} (h : PySem.Builtin.Str.strSliceIndices l u 1 b.length = sliceRange lo hi 1) (h0 : 0 ≤ lo) (h1 : lo ≤ hi) (h2 : hi ≤ b.length) :
    (PySem.Txt.slice b l u).cps.toList = (b.cps.toList.drop lo.toNat).take (hi - lo).toNat := by
  unfold PySem.Txt.slice
  rw [h, sliceIx lo hi b.length h0 h1 h2]
  have hl : b.length = b.cps.size := rfl
  split
  · rename_i hc
    simp only [beq_self_eq_true, Bool.true_and, List.length_map, List.length_range, beq_iff_eq] at hc
    have e1 : lo.toNat = 0 := by omega
    rw [e1, List.drop_zero, List.take_of_length_le]
    simp
    omega
  · rw [filterMap_range b.cps _ _ (by omega)]

theorem slice_take (b : Str) (p : Int) (h0 : 0 ≤ p) (h1 : p ≤ b.length) : (PySem.Txt.slice b none (some p)).cps.toList = b.cps.toList.take p.toNat := by
  have e : PySem.Builtin.Str.strSliceIndices none (some p) 1 b.length = sliceRange 0 p 1 := by
    unfold PySem.Builtin.Str.strSliceIndices
    simp only [show (1 : Int) > 0 by decide, if_true]
    congr 1
    split <;> omega
  rw [slice_of e (by omega) h0 h1]
  simp

theorem slice_drop (b : Str) (p : Int) (h0 : 0 ≤ p) (h1 : p ≤ b.length) : (PySem.Txt.slice b (some p) none).cps.toList = b.cps.toList.drop p.toNat := by
  have e : PySem.Builtin.Str.strSliceIndices (some p) none 1 b.length = sliceRange p b.length 1 := by
    unfold PySem.Builtin.Str.strSliceIndices
    simp only [show (1 : Int) > 0 by decide, if_true]
    congr 1
    split <;> omega
  rw [slice_of e h0 h1 (by omega)]
  have hl : b.length = b.cps.toList.length := by simp [Str.length]
  rw [List.take_of_length_le]
  rw [List.length_drop]
  omega
end Mine
end

section
open PySem PySem.W PyProof.Rows
set_option maxRecDepth 100000
set_option maxHeartbeats 8000000
set_option linter.unusedVariables false
set_option linter.unusedSimpArgs false
namespace Mine

def Stop (P : Prop) : Prop := P
theorem Stop.mk {P : Prop} (h : Stop P) : P := h
theorem Stop.out {P : Prop} (h : P) : Stop P := h

abbrev Claim (w : World) (mean : ExcName → Option Value) (mg mb : Str → Option Value) (f : Addr) (vs : List Value) (room : Nat) (Pre : List (Addr × Obj) → Prop)
    (Ret : (h₀ : Heap) → (L : Addr) → (m : Str → Option Value) → (news : List (Addr × Obj)) → (Value → Heap → Nat → Prop) → Prop) : Prop :=
  ∀ (dp un : Nat) (gd : Option (List Code)) (cn : Str) (cs : Scope) (a : Addr) (ccd : Value) (cl : List (Str × Addr)) (outer : List Env) (A₀ : Around) (base h₀ : Heap) (L : Addr) (m : Str → Option Value) (news : List (Addr × Obj)) (s : Shared) (Q E : Value → Shared → Prop),
    Below A₀ base outer h₀ → Fr h₀ L s.heap m → (hd.heap_39 w.params).In h₀ → News h₀ L s.heap news → Top hd.view_39 (looseW hd.view_39 []) mean mg mb h₀ → cs.kind = .function →
    dp + room < recursionLimit → un + 8 * room < cLine → Pre news → Ret h₀ L m news (fun v h' tk' => Q v { s with heap := h', toks := tk' }) →
      wpAny (model Challenge.rw_mq0023_01.row.prog w) (ktrTop dp un gd cn cs L a ccd cl outer) (call (.ref f) vs) Q E s
abbrev ClaimR (w : World) (mean : ExcName → Option Value) (mg mb : Str → Option Value) (f : Addr) (vs : List Value) (room : Nat) (Pre : List (Addr × Obj) → Prop)
    (Ret : (h₀ : Heap) → (L : Addr) → (m : Str → Option Value) → (news : List (Addr × Obj)) → (Value → Heap → Nat → Prop) → Prop) : Prop :=
  ∀ (dp un : Nat) (cn : Str) (cs : Scope) (a : Addr) (ccd : Value) (cl : List (Str × Addr)) (outer : List Env) (A₀ : Around) (base h₀ : Heap) (L : Addr) (m : Str → Option Value) (news : List (Addr × Obj)) (s : Shared) (Q : Value → Shared → Prop),
    Below A₀ base outer h₀ → Fr h₀ L s.heap m → (hd.heap_39 w.params).In h₀ → News h₀ L s.heap news → Top hd.view_39 (looseW hd.view_39 []) mean mg mb h₀ → cs.kind = .function →
    dp + room < recursionLimit → un + 8 * room < cLine → Pre news → Ret h₀ L m news (fun v h' tk' => Q v { s with heap := h', toks := tk' }) →
      wpR (model Challenge.rw_mq0023_01.row.prog w) (ktrTop dp un (some []) cn cs L a ccd cl outer) (call (.ref f) vs) Q s

abbrev RetFlat (R : Tok → Value) (h₀ : Heap) (L : Addr) (m : Str → Option Value) (news : List (Addr × Obj)) (Q : Value → Heap → Nat → Prop) : Prop :=
  ∀ (t : Tok) (h' : Heap) (tk' : Nat), Fr h₀ L h' m → News h₀ L h' news → Q (R t) h' tk'

local macro_rules | `(tactic| walk_at "WPost") => `(tactic| dsimp only [WPost])

def tT (j bias : Int) : Int := if 36 * (j + 1) - bias < 1 then 1 else if 36 * (j + 1) - bias > 26 then 26 else 36 * (j + 1) - bias

theorem T_spec {w mean mg mb} (j bias : Int) (t1 t2 : Tok) : Claim w mean mg mb 21 [.int j t1, .int bias t2] 2 (fun _ => True) (RetFlat (fun t => .int (tT j bias) t)) := by
  dsimp only [Claim, RetFlat]
  k_fill
  intro dp un gd cn cs a ccd cl outer A₀ base h₀ L m news s Q E B F X N T hk hroom hun hpre hret
  k_dflt (refine' enter [(Str.ofString "bias", .int bias t2), (Str.ofString "j", .int j t1)] B F X N T hk (by omega) ?k1 ?k2 ?k3 ?k4 ?k5 ?k6 ?k7 ?k8 ?_; (case k1 => k_is); (case k2 => k_is); (case k3 => exact BindsTo.of_eq rfl); (case k4 => exact locs rfl); (case k5 => exact rfl); (case k6 => exact rfl); (case k7 => exact rfl); (case k8 => decide))
  intro g L' h₁ tk FG F' N' B' X' T'
  k_fold
  k_with_none
  k_steps
  all_goals (refine cb_retI hret ?_ (by k_asm) (by k_asm); unfold tT; (try simp only [decide_eq_true_eq, decide_eq_false_iff_not] at *); (repeat' split) <;> omega)

def adLoop (d v : Nat) : Nat := if h : d > 455 then adLoop (d / 35) (v + 36) else v + 36 * d / (d + 38)
termination_by d
decreasing_by omega

def adaptP (delta : Int) (first : Bool) (n : Int) : Int :=
  let d := if first then delta / 700 else delta / 2
  adLoop (d + d / n).toNat 0

theorem fdiv_ediv (a b : Int) (h : 0 ≤ b) : a.fdiv b = a / b := Int.fdiv_eq_ediv_of_nonneg a h
theorem fmod_emod (a b : Int) (h : 0 ≤ b) : a.fmod b = a % b := Int.fmod_eq_emod_of_nonneg a h

theorem adapt_start1 {delta n : Int} {first : Bool} (hd : 0 ≤ delta ∧ delta < 1048576) (hn : 0 < n ∧ n < 1048576) (hf : first = true) :
    0 ≤ delta.fdiv 700 + (delta.fdiv 700).fdiv n ∧ (0 : Int) ≤ 0 ∧ (adLoop (delta.fdiv 700 + (delta.fdiv 700).fdiv n).toNat (Int.toNat 0) : Int) = adaptP delta first n := by
  subst hf
  rw [fdiv_ediv _ 700 (by omega), fdiv_ediv _ n (by omega)]
  have h1 : 0 ≤ delta / 700 := by omega
  have h2 : 0 ≤ delta / 700 / n := Int.ediv_nonneg h1 (by omega)
  exact ⟨by omega, by omega, by simp [adaptP]⟩
theorem adapt_start2 {delta n : Int} {first : Bool} (hd : 0 ≤ delta ∧ delta < 1048576) (hn : 0 < n ∧ n < 1048576) (hf : first = false) :
    0 ≤ delta.fdiv 2 + (delta.fdiv 2).fdiv n ∧ (0 : Int) ≤ 0 ∧ (adLoop (delta.fdiv 2 + (delta.fdiv 2).fdiv n).toNat (Int.toNat 0) : Int) = adaptP delta first n := by
  subst hf
  rw [fdiv_ediv _ 2 (by omega), fdiv_ediv _ n (by omega)]
  have h1 : 0 ≤ delta / 2 := by omega
  have h2 : 0 ≤ delta / 2 / n := Int.ediv_nonneg h1 (by omega)
  exact ⟨by omega, by omega, by simp [adaptP]⟩
theorem adapt_turn {d v A : Int} (h : 0 ≤ d ∧ 0 ≤ v ∧ (adLoop d.toNat v.toNat : Int) = A) (hd : 455 < d) : 0 ≤ d.fdiv 35 ∧ 0 ≤ v + 36 ∧ (adLoop (d.fdiv 35).toNat (v + 36).toNat : Int) = A := by
  obtain ⟨h1, h2, h3⟩ := h
  rw [fdiv_ediv _ 35 (by omega)]
  refine ⟨by omega, by omega, ?_⟩
  rw [adLoop, dif_pos (by omega)] at h3
  rw [← h3]
  congr 2 <;> omega
theorem adapt_less {d v A : Int} (h : 0 ≤ d ∧ 0 ≤ v ∧ (adLoop d.toNat v.toNat : Int) = A) (hd : 455 < d) : (d.fdiv 35).toNat < d.toNat := by
  rw [fdiv_ediv _ 35 (by omega)]; omega
theorem adapt_end {d v A : Int} (h : 0 ≤ d ∧ 0 ≤ v ∧ (adLoop d.toNat v.toNat : Int) = A) (hd : ¬ 455 < d) : v + (36 * d).fdiv (d + 38) = A := by
  obtain ⟨h1, h2, h3⟩ := h
  rw [fdiv_ediv _ _ (by omega)]
  rw [adLoop, dif_neg (by omega)] at h3
  rw [← h3]
  have e1 : ((d.toNat : Nat) : Int) = d := Int.toNat_of_nonneg h1
  have e2 : ((v.toNat : Nat) : Int) = v := Int.toNat_of_nonneg h2
  rw [Int.natCast_add, Int.natCast_ediv, Int.natCast_mul, Int.natCast_add, e1, e2]; rfl

theorem adapt_spec {w mean mg mb} (delta : Int) (first : Bool) (n : Int) (t1 t3 : Tok) (hd : 0 ≤ delta ∧ delta < 1048576) (hn : 0 < n ∧ n < 1048576) : Claim w mean mg mb 35 [.int delta t1, .bool first, .int n t3] 2 (fun _ => True) (RetFlat (fun t => .int (adaptP delta first n) t)) := by
  dsimp only [Claim, RetFlat]
  k_fill
  intro dp un gd cn cs a ccd cl outer A₀ base h₀ L m news s Q E B F X N T hk hroom hun hpre hret
  k_dflt (refine' enter [(Str.ofString "numchars", .int n t3), (Str.ofString "first", .bool first), (Str.ofString "delta", .int delta t1)] B F X N T hk (by omega) ?k1 ?k2 ?k3 ?k4 ?k5 ?k6 ?k7 ?k8 ?_; (case k1 => k_is); (case k2 => k_is); (case k3 => exact BindsTo.of_eq rfl); (case k4 => exact locs rfl); (case k5 => exact rfl); (case k6 => exact rfl); (case k7 => exact rfl); (case k8 => decide))
  intro g L' h₁ tk FG F' N' B' X' T'
  k_fold
  k_with_none
  k_with "exec While Compare cons nil" => refine Stop.mk ?_
  k_steps
  all_goals refine Stop.out ?_
  all_goals (
    refine my_while (σ := Int × Int × Tok × Tok) (fun _ => news) (fun c => [(Str.ofString "delta", .int c.1 c.2.2.1), (Str.ofString "divisions", .int c.2.1 c.2.2.2)]) (fun c => 0 ≤ c.1 ∧ 0 ≤ c.2.1 ∧ (adLoop c.1.toNat c.2.1.toNat : Int) = adaptP delta first n) (fun c => c.1.toNat) ⟨_, _, _, _⟩ (by k_asm) (by k_asm) (by kst_all) ?_ ?_ ?_
    · first | exact adapt_start1 hd hn (by assumption) | exact adapt_start2 hd hn (by assumption)
    · passes_own
    · intro c u h1 tk1 hp F1 N1
      obtain ⟨d, v, ta, tb⟩ := c
      dsimp only at hp F1 N1 ⊢
      k_steps
      · exact w_end ⟨_, _, _, _⟩ (by k_asm) (by k_asm) (fun _ h => h) (by kst_all) (adapt_turn hp (by assumption)) (adapt_less hp (by assumption))
      · exact cb_retI hret (adapt_end hp (by assumption)) (by k_asm) (by k_asm))
end Mine
end

section
open PySem PySem.W PyProof.Rows
set_option maxRecDepth 100000
set_option maxHeartbeats 8000000
set_option linter.unusedVariables false
set_option linter.unusedSimpArgs false
namespace Mine

theorem tT_lo (j bias : Int) : 1 ≤ tT j bias := by unfold tT; split <;> (try split) <;> omega
theorem tT_hi (j bias : Int) : tT j bias ≤ 26 := by unfold tT; split <;> (try split) <;> omega

/-- the figures of a number, the lowest first -/
def digs (bias : Int) (N j : Nat) : List Nat :=
  if h : N < (tT j bias).toNat then [N]
  else ((tT j bias).toNat + (N - (tT j bias).toNat) % (36 - (tT j bias).toNat)) :: digs bias ((N - (tT j bias).toNat) / (36 - (tT j bias).toNat)) (j + 1)
termination_by N
decreasing_by
  have h1 := tT_lo j bias
  have h2 := tT_hi j bias
  have h3 := Nat.div_le_self (N - (tT j bias).toNat) (36 - (tT j bias).toNat)
  omega
theorem digs_len (bias : Int) (N j : Nat) : (digs bias N j).length ≤ N + 1 := by
  induction N using Nat.strongRecOn generalizing j with
  | ind N ih =>
    rw [digs]
    split
    · simp
    · have h1 := tT_lo j bias
      have h2 := tT_hi j bias
      have h3 := Nat.div_le_self (N - (tT j bias).toNat) (36 - (tT j bias).toNat)
      have h4 := ih ((N - (tT j bias).toNat) / (36 - (tT j bias).toNat)) (by omega) (j + 1)
      simp only [List.length_cons]
      omega
theorem digs_lt (bias : Int) (N j : Nat) : ∀ d ∈ digs bias N j, d < 36 := by
  induction N using Nat.strongRecOn generalizing j with
  | ind N ih =>
    have h1 := tT_lo j bias
    have h2 := tT_hi j bias
    rw [digs]
    split
    · intro d hd; rw [List.mem_singleton.mp hd]; omega
    · have h3 := Nat.div_le_self (N - (tT j bias).toNat) (36 - (tT j bias).toNat)
      have h5 := Nat.mod_lt (N - (tT j bias).toNat) (show 0 < 36 - (tT j bias).toNat by omega)
      intro d hd
      rcases List.mem_cons.mp hd with rfl | hd
      · omega
      · exact ih _ (by omega) (j + 1) d hd
/-- a figure's sign -/
def cod (d : Nat) : Nat := if d < 26 then 97 + d else 22 + d
def codB (d : Nat) : UInt8 := (cod d).toUInt8

theorem ba_upd {h₀ h : Heap} {L a : Addr} {m : Str → Option Value} {b : Array UInt8} {rest : List (Addr × Obj)} (f : Array UInt8 → Array UInt8) (F : Fr h₀ L h m) (N : News h₀ L h ((a, baObj b) :: rest)) (hne : ∀ p ∈ rest, p.1 ≠ a) :
    Fr h₀ L (h.update a (Obj.mapBytearray f)) m ∧ News h₀ L (h.update a (Obj.mapBytearray f)) ((a, baObj (f b)) :: rest) := by
  have h1 := N _ (.head _)
  have hk : ∀ c, c ≠ a → (h.update a (Obj.mapBytearray f)).get? c = h.get? c := fun c hc => Heap.get?_update_other _ _ (Ne.symm hc)
  refine ⟨⟨?_, fun c o e => ?_, F.above⟩, fun p hp => ?_⟩
  · obtain ⟨oL, es, ep, hL, r⟩ := F.ns
    exact ⟨oL, es, ep, (hk L (Ne.symm h1.2.1)).trans hL, r⟩
  · have hc : c ≠ a := fun e' => by rw [e', h1.2.2] at e; cases e
    exact (hk c hc).trans (F.keep c o e)
  · rcases List.mem_cons.mp hp with rfl | hp'
    · exact ⟨Heap.get?_update_self (Obj.mapBytearray f) h1.1 rfl, h1.2⟩
    · exact ⟨(hk _ (hne p hp')).trans (N p (.tail _ hp')).1, (N p (.tail _ hp')).2⟩
theorem ba_fresh {h₀ h : Heap} {L : Addr} {m : Str → Option Value} {news : List (Addr × Obj)} (F : Fr h₀ L h m) (N : News h₀ L h news) :
    Fr h₀ L ((h.push (baObj #[])).update h.objs.size (Obj.mapBytearray (fun _ => #[]))) m ∧ News h₀ L ((h.push (baObj #[])).update h.objs.size (Obj.mapBytearray (fun _ => #[]))) ((h.objs.size, baObj #[]) :: news) ∧ ∀ p ∈ news, p.1 < h.objs.size := by
  have hl : ∀ p ∈ news, p.1 < h.objs.size := fun p hp => Heap.lt_size (N p hp).1
  have r := ba_upd (fun _ => #[]) (F.push (baObj #[])) (News.push F N (baObj #[])) fun p hp => Nat.ne_of_lt (hl p hp)
  exact ⟨r.1, r.2, hl⟩

theorem dig_at : ∀ d : Nat, d < 36 → ([97, 98, 99, 100, 101, 102, 103, 104, 105, 106, 107, 108, 109, 110, 111, 112, 113, 114, 115, 116, 117, 118, 119, 120, 121, 122, 48, 49, 50, 51, 52, 53, 54, 55, 56, 57] : List UInt8).getD d 0 = codB d := by decide
theorem dig_byte {i : Int} {d : Nat} (h : i.toNat = d) (hd : d < 36) : ((([97, 98, 99, 100, 101, 102, 103, 104, 105, 106, 107, 108, 109, 110, 111, 112, 113, 114, 115, 116, 117, 118, 119, 120, 121, 122, 48, 49, 50, 51, 52, 53, 54, 55, 56, 57] : List UInt8).getD i.toNat 0).toNat : Int).toNat.toUInt8 = codB d := by
  rw [h, dig_at d hd]
  simp
theorem byte_lo (b : UInt8) : (0 : Int) ≤ (b.toNat : Int) := by omega
theorem byte_hi (b : UInt8) : (b.toNat : Int) < 256 := by have := b.toNat_lt; omega
theorem fmod_b (a : Int) {n : Int} (h : 0 < n) : 0 ≤ a.fmod n ∧ a.fmod n < n := ⟨fmod_lo a h, fmod_hi a h⟩
theorem digs_end {bias n j : Int} (hn : 0 ≤ n) (hj : 0 ≤ j) (h : n < tT j bias) : digs bias n.toNat j.toNat = [n.toNat] := by
  have e : ((j.toNat : Nat) : Int) = j := Int.toNat_of_nonneg hj
  rw [digs, dif_pos (by rw [e]; omega)]
theorem digs_next {bias n j : Int} (hn : 0 ≤ n) (hj : 0 ≤ j) (h : ¬ n < tT j bias) :
    digs bias n.toNat j.toNat = (tT j bias + (n - tT j bias).fmod (36 - tT j bias)).toNat :: digs bias ((n - tT j bias).fdiv (36 - tT j bias)).toNat (j + 1).toNat := by
  have h1 := tT_lo j bias
  have h2 := tT_hi j bias
  have e : ((j.toNat : Nat) : Int) = j := Int.toNat_of_nonneg hj
  have e' : (j + 1).toNat = j.toNat + 1 := by omega
  rw [digs, dif_neg (by rw [e]; omega), e, e', fmod_emod _ _ (by omega), fdiv_ediv _ _ (by omega)]
  obtain ⟨t, ht⟩ := Int.eq_ofNat_of_zero_le (show 0 ≤ tT j bias by omega)
  obtain ⟨k, rfl⟩ := Int.eq_ofNat_of_zero_le hn
  rw [ht]
  have e1 : ((k : Int) - (t : Int)) = ((k - t : Nat) : Int) := by omega
  have e2 : (36 - (t : Int)) = ((36 - t : Nat) : Int) := by omega
  rw [e1, e2, ← Int.natCast_emod, ← Int.natCast_ediv]
  congr 1
theorem digs_less {bias n j : Int} (hn : 0 ≤ n) (hj : 0 ≤ j) (h : ¬ n < tT j bias) : 0 ≤ (n - tT j bias).fdiv (36 - tT j bias) ∧ ((n - tT j bias).fdiv (36 - tT j bias)) < n := by
  have h1 := tT_lo j bias
  have h2 := tT_hi j bias
  rw [fdiv_ediv _ _ (by omega)]
  have h3 := Int.ediv_le_self (36 - tT j bias) (show 0 ≤ n - tT j bias by omega)
  have h4 := Int.ediv_nonneg (show 0 ≤ n - tT j bias by omega) (show 0 ≤ 36 - tT j bias by omega)
  omega

local macro_rules | `(tactic| walk_at "WPost") => `(tactic| dsimp only [WPost])
local macro_rules | `(tactic| walk_at "call ref") => `(tactic| (k_here; k_dflt (refine' T_spec _ _ _ _ _ _ _ _ _ _ _ _ _ _ _ _ _ _ _ _ _ _ ?k1 ?k2 ?k3 ?k4 ?k5 ?kK ?kd ?ku trivial ?_; (case k1 => k_asm); (case k2 => k_asm); (case k3 => k_asm); (case k4 => k_asm); (case k5 => k_asm); (case kK => first | exact rfl | assumption); (case kd => ktr_room); (case ku => ktr_units); intro t9 h9 tk9 F9 N9; (try dsimp only); (try k_fold))))
local macro_rules | `(tactic| walk_at "call type:bytes") => `(tactic| (k_here; (with_reducible show wpAny _ _ (call (Value.type "bytes") [Value.ref _]) _ _ _); k_dflt (refine' call_bytes_ba ?k1 ?k2 ?_; (case k1 => exact News.get (by k_asm) (by k_mem)); (case k2 => first | assumption | omega))))

set_option maxHeartbeats 8000000 in
theorem ggi_spec {w mean mg mb} (N : Int) (bias : Int) (t1 t2 : Tok) (hN : 0 ≤ N ∧ N < 1048576) : ClaimR w mean mg mb 28 [.int N t1, .int bias t2] 4 (fun _ => True) (RetFlat (fun t => .bytes ((digs bias N.toNat 0).map codB).toArray t)) := by
  dsimp only [ClaimR, RetFlat]
  k_fill
  intro dp un cn cs a ccd cl outer A₀ base h₀ L m news s Q B F X N0 T hk hroom hun hpre hret
  k_dflt (refine' enterR [(Str.ofString "bias", .int bias t2), (Str.ofString "N", .int N t1)] B F X N0 T hk (by omega) ?k1 ?k2 ?k3 ?k4 ?k5 ?k6 ?k7 ?k8 ?_; (case k1 => k_is); (case k2 => k_is); (case k3 => exact BindsTo.of_eq rfl); (case k4 => exact locs rfl); (case k5 => exact rfl); (case k6 => exact rfl); (case k7 => exact rfl); (case k8 => decide))
  intro g L' h₁ tk FG F' N' hlt B' X' T'
  refine rExecs_cons (rAssign (rCall ?_))
  k_with_none
  k_steps
  refine rCallWith rfl (rSpliced_nil (wpAny_pure ⟨.inr rfl, rNew rfl ?_⟩))
  rename Fr g L' _ _ => F1
  obtain ⟨F2, N2, hra⟩ := ba_fresh F1 N'
  dsimp only
  generalize (h₁.push (baObj #[])).update h₁.objs.size (Obj.mapBytearray (fun _ => #[])) = H at F2 N2 ⊢
  generalize h₁.objs.size = ra at *
  clear F1 N'
  k_steps
  dsimp only
  refine rExecs_any ?_
  k_steps
  dsimp only
  refine rExecs_cons ?_
  refine rWhile (σ := Int × Int × List UInt8 × Tok × Tok) (fun c => (ra, baObj c.2.2.1.toArray) :: news) (fun c => [(Str.ofString "N", .int c.1 c.2.2.2.1), (Str.ofString "j", .int c.2.1 c.2.2.2.2), (Str.ofString "bias", .int bias t2), (Str.ofString "result", .ref ra)])
    (fun c => 0 ≤ c.1 ∧ c.1 < 1048576 ∧ 0 ≤ c.2.1 ∧ c.2.2.1 ++ (digs bias c.1.toNat c.2.1.toNat).map codB = (digs bias N.toNat 0).map codB) (fun c => c.1.toNat) ⟨N, 0, [], _, _⟩ (by k_asm) (by k_asm) (by kst_all) ⟨hN.1, hN.2, Int.le_refl _, by simp⟩ ?_
  intro c u h1 tk1 hp F1 N1
  obtain ⟨n, j, acc, ta, tb⟩ := c
  dsimp only at hp F1 N1 ⊢
  obtain ⟨hp1, hp2, hp3, hp4⟩ := hp
  k_steps
  refine rExecs_any ?_
  k_steps
  try dsimp only
  refine rExecs_cons (rIf (wpR_any ?_))
  k_steps
  · have hlo := tT_lo j bias
    have hhi := tT_hi j bias
    refine rExecs_cons (rExpr (rMethod (wpR_any ?_)))
    walk1
    rename News g L' _ _ => Nx
    refine meth_append (News.get Nx (.head _)) ?_
    refine rCallWith rfl (rSpliced_any (bm_if_false rfl ?_))
    k_steps
    have e0 := digs_end (bias := bias) hp1 hp3 (by assumption)
    have hz : (digs bias N.toNat 0).length ≤ N.toNat + 1 := digs_len bias N.toNat 0
    have hl := congrArg List.length hp4
    rw [e0] at hl
    simp only [List.length_append, List.length_map, List.length_cons, List.length_nil] at hl
    refine rSpliced_nil (wpAny_pure ⟨.inr rfl, ?_⟩)
    refine rAppend rfl (News.get Nx (.head _)) (byte_lo _) (byte_hi _) (by rw [sizeLine_eq]; simp only [List.size_toArray]; omega) ⟨rfl, ?_⟩
    rw [dig_byte (d := n.toNat) rfl (by omega)]
    rename Fr g L' _ _ => Fx
    obtain ⟨F2, N2⟩ := ba_upd (·.push (codB n.toNat)) Fx Nx fun p hp => Nat.ne_of_lt (hra p hp)
    dsimp only at F2 N2 ⊢
    have e1 : acc.toArray.push (codB n.toNat) = ((digs bias N.toNat 0).map codB).toArray := by rw [← hp4, e0]; simp
    rw [e1] at N2
    have hsz : ((digs bias N.toNat 0).map codB).toArray.size ≤ sizeLine := by rw [sizeLine_eq]; simp only [List.size_toArray, List.length_map]; omega
    generalize Heap.update _ ra (Obj.mapBytearray (·.push (codB n.toNat))) = H2 at F2 N2 ⊢
    clear Fx Nx
    refine rExecs_any ?_
    k_steps
    exact hret _ _ _ (by k_asm) (cb_drop (by k_asm) fun p hp => .tail _ hp)
  · have hlo := tT_lo j bias
    have hhi := tT_hi j bias
    have hfm := fmod_b (n - tT j bias) (show 0 < 36 - tT j bias by omega)
    refine rExecs_nil ?_
    dsimp only
    refine rExecs_cons (rExpr (rMethod (wpR_any ?_)))
    walk1
    rename News g L' _ _ => Nx
    refine meth_append (News.get Nx (.head _)) ?_
    refine rCallWith rfl (rSpliced_any (bm_if_false rfl ?_))
    k_steps
    have e0 := digs_next (bias := bias) hp1 hp3 (by assumption)
    have hls := digs_less (bias := bias) hp1 hp3 (by assumption)
    have hz : (digs bias N.toNat 0).length ≤ N.toNat + 1 := digs_len bias N.toNat 0
    have hl := congrArg List.length hp4
    rw [e0] at hl
    simp only [List.length_append, List.length_map, List.length_cons, List.length_nil] at hl
    refine rSpliced_nil (wpAny_pure ⟨.inr rfl, ?_⟩)
    refine rAppend rfl (News.get Nx (.head _)) (byte_lo _) (byte_hi _) (by rw [sizeLine_eq]; simp only [List.size_toArray]; omega) ⟨rfl, ?_⟩
    rw [dig_byte rfl (by omega)]
    rename Fr g L' _ _ => Fx
    obtain ⟨F2, N2⟩ := ba_upd (·.push (codB (tT j bias + (n - tT j bias).fmod (36 - tT j bias)).toNat)) Fx Nx fun p hp => Nat.ne_of_lt (hra p hp)
    dsimp only at F2 N2 ⊢
    have e1 : acc.toArray.push (codB (tT j bias + (n - tT j bias).fmod (36 - tT j bias)).toNat) = (acc ++ [codB (tT j bias + (n - tT j bias).fmod (36 - tT j bias)).toNat]).toArray := by simp
    rw [e1] at N2
    generalize Heap.update _ ra (Obj.mapBytearray (·.push (codB (tT j bias + (n - tT j bias).fmod (36 - tT j bias)).toNat))) = H2 at F2 N2 ⊢
    clear Fx Nx
    refine rExecs_any ?_
    k_steps
    refine rExecs_any ?_
    k_steps
    refine rExecs_nil ?_
    refine w_end ⟨(n - tT j bias).fdiv (36 - tT j bias), j + 1, acc ++ [codB (tT j bias + (n - tT j bias).fmod (36 - tT j bias)).toNat], _, _⟩ (by k_asm) (by k_asm) (fun _ h => h) (by kst_all) ⟨hls.1, Int.lt_trans hls.2 hp2, Int.le_add_one hp3, ?_⟩ (by show Int.toNat _ < Int.toNat n; omega)
    rw [← hp4, e0]; simp
end Mine
end

section
open PySem PySem.W PyProof.Rows
set_option maxRecDepth 100000
set_option maxHeartbeats 8000000
set_option linter.unusedVariables false
set_option linter.unusedSimpArgs false
namespace Mine

/-- the signs of a row of numbers -/
def encAll (bl : Int) : Int → Nat → List Int → List UInt8
  | _, _, [] => []
  | bias, i, d :: ds => (digs bias d.toNat 0).map codB ++ encAll bl (adaptP d ((i : Int) == 0) (bl + i + 1)) (i + 1) ds
theorem encAll_len (bl : Int) : ∀ (ds : List Int) (bias : Int) (i : Nat), (∀ d ∈ ds, 0 ≤ d ∧ d < 1048576) → (encAll bl bias i ds).length ≤ 1048576 * ds.length
  | [], _, _, _ => by simp [encAll]
  | d :: ds, bias, i, h => by
    have h1 := h d (.head _)
    have h2 := encAll_len bl ds (adaptP d ((i : Int) == 0) (bl + i + 1)) (i + 1) fun x hx => h x (.tail _ hx)
    have h3 := digs_len bias d.toNat 0
    simp only [encAll, List.length_append, List.length_map, List.length_cons]
    omega

local macro_rules | `(tactic| walk_at "call ref") => `(tactic| (k_here; k_dflt (refine' adapt_spec _ _ _ _ _ ?kp1 ?kp2 _ _ _ _ _ _ _ _ _ _ _ _ _ _ _ _ _ _ ?k1 ?k2 ?k3 ?k4 ?k5 ?kK ?kd ?ku trivial ?_; (case kp1 => first | assumption | omega); (case kp2 => first | assumption | omega); (case k1 => k_asm); (case k2 => k_asm); (case k3 => k_asm); (case k4 => k_asm); (case k5 => k_asm); (case kK => first | exact rfl | assumption); (case kd => ktr_room); (case ku => ktr_units); intro t9 h9 tk9 F9 N9; (try dsimp only); (try k_fold))))

local macro_rules | `(tactic| walk_at "call type:bytes") => `(tactic| (k_here; (with_reducible show wpAny _ _ (call (Value.type "bytes") [Value.ref _]) _ _ _); k_dflt (refine' call_bytes_ba ?k1 ?k2 ?_; (case k1 => exact News.get (by k_asm) (by k_mem)); (case k2 => first | assumption | omega))))
theorem rKeep {M : Model} {A : Around} {s : Shared} {K : Frag} {f : Value} {P : Shared → Prop} (hk : keepIn K f = true) (X : K.In s.heap) (h : P s) : wpAny M A (keeperOf f) (fun k s₂ => (k = Keeper.frame ∨ k = Keeper.machine) ∧ P s₂) NF s := by
  obtain ⟨k, a, b⟩ := looks_keep (M := M) hk X
  exact b.here ⟨a, h⟩

theorem gi_spec {w mean mg mb} (bl : Int) (l : Addr) (vs : List Value) (ds : List Int) (nn : Nat) (t1 : Tok) (hi : IntsAre vs ds) (hbl : 0 ≤ bl ∧ bl < 1000) (hds : ∀ d ∈ ds, 0 ≤ d ∧ d < 1048576) (hlen : ds.length ≤ 15) :
    ClaimR w mean mg mb 42 [.int bl t1, .ref l] 6 (fun news => (l, listOf vs.toArray nn) ∈ news) (RetFlat (fun t => .bytes (encAll bl 72 0 ds).toArray t)) := by
  dsimp only [ClaimR, RetFlat]
  k_fill
  intro dp un cn cs a ccd cl outer A₀ base h₀ L m news s Q B F X N0 T hk hroom hun hpre hret
  k_dflt (refine' enterR [(Str.ofString "deltas", .ref l), (Str.ofString "baselen", .int bl t1)] B F X N0 T hk (by omega) ?k1 ?k2 ?k3 ?k4 ?k5 ?k6 ?k7 ?k8 ?_; (case k1 => k_is); (case k2 => k_is); (case k3 => exact BindsTo.of_eq rfl); (case k4 => exact locs rfl); (case k5 => exact rfl); (case k6 => exact rfl); (case k7 => exact rfl); (case k8 => decide))
  intro g L' h₁ tk FG F' N' hlt B' X' T'
  refine rExecs_cons (rAssign (rCall ?_))
  k_with_none
  k_steps
  refine rCallWith rfl (rSpliced_nil (wpAny_pure ⟨.inr rfl, rNew rfl ?_⟩))
  rename Fr g L' _ _ => F1
  obtain ⟨F2, N2, hra⟩ := ba_fresh F1 N'
  dsimp only
  generalize (h₁.push (baObj #[])).update h₁.objs.size (Obj.mapBytearray (fun _ => #[])) = H at F2 N2 ⊢
  generalize h₁.objs.size = ra at *
  clear F1 N'
  k_steps
  dsimp only
  refine rExecs_any ?_
  k_steps
  dsimp only
  refine rExecs_cons (rFor ?_)
  k_with "call type:enumerate" => refine Stop.mk ?_
  k_steps
  refine Stop.out ?_
  rename News g L' _ _ => Nx
  rename Fr g L' _ _ => Fx
  rename Heap => hx
  have hl : hx.IsList l vs.toArray := ⟨_, (Nx _ (.tail _ hpre)).1, rfl, _, rfl⟩
  have hll : l < hx.objs.size := Heap.lt_size (Nx _ (.tail _ hpre)).1
  have hLs : L' < hx.objs.size := Fx.ns.lt
  have hras : ra < hx.objs.size := Heap.lt_size (Nx _ (.head _)).1
  have hlL : l ≠ L' := (Nx _ (.tail _ hpre)).2.1
  have hng : ∀ b : Nat, hx.objs.size ≤ b → g.get? b = none := fun b hb => by
    cases e : g.get? b with
    | none => rfl
    | some o => exact absurd (Heap.lt_size (Fx.keep b o e)) (Nat.not_lt.mpr hb)
  refine call_enumerate_list hl fun h' hE hI hsz hk' => ?_
  refine wpAny_pyIter_enum hE ?_
  refine codeR_for (σ := Int × List UInt8 × Tok) (h₀ := g) (fun c => (ra, baObj c.2.1.toArray) :: news) (fun c => [(Str.ofString "bias", .int c.1 c.2.2), (Str.ofString "baselen", .int bl t1), (Str.ofString "result", .ref ra)])
    (fun i c => c.2.1 ++ encAll bl c.1 i (ds.drop i) = encAll bl 72 0 ds) ⟨72, [], _⟩
    (KTurns.ofWalksU (WalksT.enumerate rfl (hx.objs.size + 1) hx.objs.size l (Nat.succ_ne_self _) (Nat.ne_of_lt (Nat.lt_succ_of_lt hll)) (Nat.ne_of_lt hll) vs.toArray).toU) ?_ ?_ ?_
    ⟨⟨_, hE⟩, hI, hl.at fun o e => hk' l o e⟩ (Fx.keeps hk') (News.grown Nx hk') (by kst_all) (by simp) ?_ ?_
  · show L' ∉ [hx.objs.size + 1, hx.objs.size, l]
    intro hm
    simp only [List.mem_cons, List.not_mem_nil, or_false] at hm
    rcases hm with e | e | e
    · exact absurd hLs (by rw [e]; exact Nat.not_lt.mpr (Nat.le_succ _))
    · exact absurd hLs (by rw [e]; exact Nat.lt_irrefl _)
    · exact hlL e.symm
  · show ∀ b ∈ [hx.objs.size + 1, hx.objs.size], g.get? b = none
    intro b hb
    simp only [List.mem_cons, List.not_mem_nil, or_false] at hb
    rcases hb with rfl | rfl
    · exact hng _ (Nat.le_succ _)
    · exact hng _ (Nat.le_refl _)
  · show ∀ c : Int × List UInt8 × Tok, ∀ p ∈ (ra, baObj c.2.1.toArray) :: news, p.1 ∉ [hx.objs.size + 1, hx.objs.size]
    intro c p hp hm
    have hlt9 : p.1 < hx.objs.size := by
      rcases List.mem_cons.mp hp with rfl | hp
      · exact hras
      · exact Nat.lt_trans (hra p hp) hras
    simp only [List.mem_cons, List.not_mem_nil, or_false] at hm
    rcases hm with e | e
    · exact absurd hlt9 (by rw [e]; exact Nat.not_lt.mpr (Nat.le_succ _))
    · exact absurd hlt9 (by rw [e]; exact Nat.lt_irrefl _)
  · intro c i v u h tk own hin hPi hP hown F1 N1
    obtain ⟨bias, acc, tb⟩ := c
    obtain ⟨T, vals, rfl, ⟨tt, x, hxi, rfl⟩, hT⟩ := hPi
    obtain ⟨d, td, rfl, hdi⟩ := IntsAre.at hi i x (by simpa using hxi)
    have hT' : IsTup h T #[.int i tt, .int d td] := hT
    have hi15 : (i : Int) < 15 := by
      have := (List.getElem?_eq_some_iff.mp hdi).1
      omega
    have hne : ∀ p ∈ news ++ own, p.1 ≠ ra := by
      intro p hp
      rcases List.mem_append.mp hp with hp | hp
      · exact Nat.ne_of_lt (hra p hp)
      · have := hown p hp
        simp only [List.mem_cons, List.not_mem_nil, or_false] at this
        rcases this with e | e | e
        · rw [e]; exact Nat.ne_of_gt (Nat.lt_succ_of_lt hras)
        · rw [e]; exact Nat.ne_of_gt hras
        · rw [e]; exact Nat.ne_of_lt (hra _ hpre)
    have hdd := hds d (List.mem_of_getElem? hdi)
    clear hT Nx Fx hxi
    change Fr g L' h _ at F1
    change News g L' h ((ra, baObj acc.toArray) :: (news ++ own)) at N1
    dsimp only at hP ⊢
    k_steps
    refine rExecs_cons (rAssign (rCall ?_))
    walk1
    refine rCallWith rfl (rSpliced_any (bm_if_false rfl ?_))
    walk1
    refine rSpliced_any (bm_if_false rfl ?_)
    walk1
    rename News g _ _ _ => Nx
    rename Fr g _ _ _ => Fx
    refine rSpliced_nil (rKeep (K := hd.heap_39 w.params) (by k_is) (X'.keeps Fx.keep) ?_)
    refine ggi_spec d bias td tb hdd _ _ _ _ _ _ _ _ _ _ _ _ _ _ _ _ B' Fx X' Nx T' rfl (by show dp + 1 + 4 < _; omega) (by show un + 3 + 8 * 4 < _; omega) trivial ?_
    intro t9 h9 tk9 F9 N9
    clear Fx Nx
    dsimp only
    k_steps
    refine rExecs_cons (rExpr (rMethod (wpR_any ?_)))
    walk1
    rename News g L' _ _ => Nx
    rename Fr g L' _ _ => Fx
    refine meth_extend (News.get Nx (.head _)) ?_
    refine rCallWith rfl (rSpliced_any (bm_if_false rfl ?_))
    walk1
    have e0 : encAll bl bias i (ds.drop i) = (digs bias d.toNat 0).map codB ++ encAll bl (adaptP d ((i : Int) == 0) (bl + i + 1)) (i + 1) (ds.drop (i + 1)) := by
      have e := List.getElem?_eq_some_iff.mp hdi
      rw [List.drop_eq_getElem_cons e.1, e.2]
      rfl
    have hz := encAll_len bl ds 72 0 hds
    have hl9 := congrArg List.length hP
    rw [e0] at hl9
    simp only [List.length_append, List.length_map] at hl9
    refine rSpliced_nil (wpAny_pure ⟨.inr rfl, ?_⟩)
    refine rExtend rfl (News.get Nx (.head _)) (by rw [sizeLine_eq]; simp only [List.size_toArray, List.length_map]; omega) ⟨rfl, ?_⟩
    obtain ⟨F2, N2⟩ := ba_upd (· ++ ((digs bias d.toNat 0).map codB).toArray) Fx Nx hne
    dsimp only at F2 N2 ⊢
    have e1 : acc.toArray ++ ((digs bias d.toNat 0).map codB).toArray = (acc ++ (digs bias d.toNat 0).map codB).toArray := by simp
    rw [e1] at N2
    generalize Heap.update _ ra (Obj.mapBytearray (· ++ ((digs bias d.toNat 0).map codB).toArray)) = H2 at F2 N2 ⊢
    clear Fx Nx
    refine rExecs_any ?_
    k_steps
    refine rExecs_nil ?_
    refine f_end ⟨adaptP d ((i : Int) == 0) (bl + i + 1), acc ++ (digs bias d.toNat 0).map codB, _⟩ (by k_asm) (by k_asm) ?_ ?_ (by kst_all) ?_
    · intro p hp
      rcases List.mem_cons.mp hp with rfl | hp
      · exact .head _
      · exact .tail _ (List.mem_append_left _ hp)
    · exact fun p hp => .tail _ (List.mem_append_right _ hp)
    · show (acc ++ (digs bias d.toNat 0).map codB) ++ _ = _
      rw [← hP, e0, List.append_assoc]
  · intro c u h tk hP F1 N1
    obtain ⟨bias, acc, tb⟩ := c
    clear Nx Fx
    change Fr g L' h _ at F1
    change News g L' h ((ra, baObj acc.toArray) :: news) at N1
    have e0 : acc = encAll bl 72 0 ds := by
      have hn : vs.toArray.size = ds.length := by simp [hi.length]
      rw [hn, List.drop_length] at hP
      simpa [encAll] using hP
    subst e0
    have hz := encAll_len bl ds 72 0 hds
    have hsz : (encAll bl 72 0 ds).toArray.size ≤ sizeLine := by rw [sizeLine_eq]; simp only [List.size_toArray]; omega
    dsimp only
    refine rExecs_any ?_
    k_steps
    exact hret _ _ _ (by k_asm) (cb_drop (by k_asm) fun p hp => .tail _ hp)
end Mine
end

section
open PySem PySem.W PyProof.Rows
set_option maxRecDepth 100000
set_option maxHeartbeats 8000000
set_option linter.unusedVariables false
set_option linter.unusedSimpArgs false
namespace Mine
local macro_rules | `(tactic| walk_at "no such step 0") => `(tactic| fail "none")
local macro_rules | `(tactic| walk_at "no such step 1") => `(tactic| fail "none")

/-- a figure's sign, a capital -/
def codU (d : Nat) : UInt8 := if d < 26 then (65 + d).toUInt8 else (22 + d).toUInt8
theorem codU_up : ∀ d : Nat, d < 36 → Builtin.Bytes.toUpper (codB d) = codU d := by decide
theorem codU_lo : ∀ d : Nat, d < 26 → (codU d).toNat = 65 + d := by decide
theorem codU_hi : ∀ d : Nat, d < 36 → ¬ d < 26 → (codU d).toNat = 22 + d := by decide

abbrev tupObj (vs : Array Value) : Obj := { cls := .type "tuple", data := .seq vs }
abbrev RetTup (R : Tok → Tok → Array Value) (h₀ : Heap) (L : Addr) (m : Str → Option Value) (news : List (Addr × Obj)) (Q : Value → Heap → Nat → Prop) : Prop :=
  ∀ (T : Addr) (t1 t2 : Tok) (h' : Heap) (tk' : Nat), Fr h₀ L h' m → News h₀ L h' ((T, tupObj (R t1 t2)) :: news) → (∀ p ∈ news, p.1 < T) → Q (.ref T) h' tk'

local macro_rules | `(tactic| walk_at "WPost") => `(tactic| dsimp only [WPost])
local macro_rules | `(tactic| walk_at "call ref") => `(tactic| (k_here; k_dflt (refine' T_spec _ _ _ _ _ _ _ _ _ _ _ _ _ _ _ _ _ _ _ _ _ _ ?k1 ?k2 ?k3 ?k4 ?k5 ?kK ?kd ?ku trivial ?_; (case k1 => k_asm); (case k2 => k_asm); (case k3 => k_asm); (case k4 => k_asm); (case k5 => k_asm); (case kK => first | exact rfl | assumption); (case kd => ktr_room); (case ku => ktr_units); intro t9 h9 tk9 F9 N9; (try dsimp only); (try k_fold))))

theorem drop_head {E : List UInt8} {k : Nat} {x : UInt8} {rest : List UInt8} (h : E.drop k = x :: rest) : E.getD k 0 = x ∧ k < E.length ∧ E.drop (k + 1) = rest := by
  have hk : k < E.length := by
    rcases Nat.lt_or_ge k E.length with h1 | h1
    · exact h1
    · rw [List.drop_eq_nil_of_le h1] at h; cases h
  rw [List.drop_eq_getElem_cons hk] at h
  injection h with h1 h2
  exact ⟨by rw [List.getD_eq_getElem?_getD, List.getElem?_eq_getElem hk]; exact h1, hk, h2⟩
theorem dec_step {M b r w dg M' N : Int} (h : r + w * M = N) (hM : M = dg + b * M') : (r + dg * w) + (w * b) * M' = N := by
  subst h hM
  rw [Int.mul_add, Int.mul_comm dg w, Int.mul_assoc, Int.add_assoc]
theorem dig_split {bias n j : Int} : n = (tT j bias + (n - tT j bias).fmod (36 - tT j bias)) + (36 - tT j bias) * (n - tT j bias).fdiv (36 - tT j bias) := by
  have := Int.fmod_add_mul_fdiv (n - tT j bias) (36 - tT j bias)
  omega

theorem dgn_spec {w mean mg mb} (E : List UInt8) (k : Nat) (N bias : Int) (rest : List UInt8) (te tk0 tb ts : Tok) (hN : 0 ≤ N ∧ N < 1048576) (hE : E.drop k = (digs bias N.toNat 0).map codU ++ rest) (hlen : E.length ≤ 16777216) :
    Claim w mean mg mb 49 [.bytes E.toArray te, .int k tk0, .int bias tb, .str (Str.ofString "strict") ts] 4 (fun _ => True) (RetTup (fun t1 t2 => #[.int (k + (digs bias N.toNat 0).length) t1, .int N t2])) := by
  dsimp only [Claim, RetTup]
  k_fill
  intro dp un gd cn cs a ccd cl outer A₀ base h₀ L m news s Q EE B F X N0 T hk hroom hun hpre hret
  k_dflt (refine' enter [(Str.ofString "errors", .str (Str.ofString "strict") ts), (Str.ofString "bias", .int bias tb), (Str.ofString "extpos", .int k tk0), (Str.ofString "extended", .bytes E.toArray te)] B F X N0 T hk (by omega) ?k1 ?k2 ?k3 ?k4 ?k5 ?k6 ?k7 ?k8 ?_; (case k1 => k_is); (case k2 => k_is); (case k3 => exact BindsTo.of_eq rfl); (case k4 => exact locs rfl); (case k5 => exact rfl); (case k6 => exact rfl); (case k7 => exact rfl); (case k8 => decide))
  intro g L' h₁ tk FG F' N' B' X' T'
  k_fold
  k_with_none
  k_with "exec While Constant cons nil" => refine Stop.mk ?_
  k_steps
  refine Stop.out ?_
  refine my_while (σ := (Int × Int × Int × Int × Int) × Tok × Tok × Tok × Tok) (fun _ => news)
    (fun c => [(Str.ofString "j", .int c.1.2.1 c.2.1), (Str.ofString "w", .int c.1.2.2.1 c.2.2.1), (Str.ofString "result", .int c.1.2.2.2.1 c.2.2.2.1), (Str.ofString "extpos", .int c.1.2.2.2.2 c.2.2.2.2), (Str.ofString "extended", .bytes E.toArray te), (Str.ofString "bias", .int bias tb), (Str.ofString "errors", .str (Str.ofString "strict") ts)])
    (fun c => (0 ≤ c.1.1 ∧ c.1.1 < 1048576 ∧ 0 ≤ c.1.2.1 ∧ 0 ≤ c.1.2.2.2.2) ∧ E.drop c.1.2.2.2.2.toNat = (digs bias c.1.1.toNat c.1.2.1.toNat).map codU ++ rest ∧ c.1.2.2.2.1 + c.1.2.2.1 * c.1.1 = N ∧ c.1.2.2.2.2 + (digs bias c.1.1.toNat c.1.2.1.toNat).length = k + (digs bias N.toNat 0).length)
    (fun c => c.1.1.toNat) ⟨⟨N, 0, 1, 0, k⟩, _, _, _, _⟩ (by k_asm) (by k_asm) (by kst_all) ?_ ?_ ?_
  · exact ⟨⟨hN.1, hN.2, Int.le_refl _, Int.natCast_nonneg _⟩, by simpa using hE, by simp, by simp⟩
  · passes_own
  intro c u h1 tk1 hp F1 N1
  obtain ⟨⟨M, j, wt, r, pos⟩, ta, tc, td, tf⟩ := c
  dsimp only at hp F1 N1 ⊢
  obtain ⟨⟨hp1, hp2, hp3, hp4⟩, hp5, hp6, hp7⟩ := hp
  have hlo := tT_lo j bias
  have hhi := tT_hi j bias
  by_cases hlt : M < tT j bias
  · rw [digs_end hp1 hp3 hlt] at hp5 hp7
    obtain ⟨hg1, hg2, hg3⟩ := drop_head hp5
    have hch : ((E.getD pos.toNat 0).toNat : Int) = 65 + M := by rw [hg1, codU_lo _ (by omega)]; omega
    have hposl : pos < (E.length : Int) := by omega
    k_steps
    rename News h₀ L _ (_ :: news) => kN
    rename ∀ p ∈ news, _ => l1
    have e1 : pos + 1 = k + (digs bias N.toNat 0).length := by simpa using hp7
    have e2 : r + ((E.getD pos.toNat 0).toNat - 65) * wt = N := by
      rw [hch, ← hp6, Int.mul_comm wt M]; congr 2; omega
    rw [e1, e2] at kN
    exact hret _ _ _ _ _ (by k_asm) kN l1
  · have e0 := digs_next (bias := bias) hp1 hp3 hlt
    have hls := digs_less (bias := bias) hp1 hp3 hlt
    have hfm := fmod_b (M - tT j bias) (show 0 < 36 - tT j bias by omega)
    have hsp := dig_split (bias := bias) (n := M) (j := j)
    rw [e0] at hp5 hp7
    obtain ⟨hg1, hg2, hg3⟩ := drop_head hp5
    have hposl : pos < (E.length : Int) := by omega
    have hdr : E.drop (pos + 1).toNat = (digs bias ((M - tT j bias).fdiv (36 - tT j bias)).toNat (j + 1).toNat).map codU ++ rest := by
      rw [show (pos + 1).toNat = pos.toNat + 1 by omega]; exact hg3
    have hst := dec_step hp6 hsp
    simp only [List.length_cons] at hp7
    generalize hdg : tT j bias + (M - tT j bias).fmod (36 - tT j bias) = dg at *
    by_cases h26 : dg < 26
    · have hch : ((E.getD pos.toNat 0).toNat : Int) = 65 + dg := by rw [hg1, codU_lo _ (by omega)]; omega
      k_steps
      refine w_end ⟨⟨(M - tT j bias).fdiv (36 - tT j bias), j + 1, wt * (36 - tT j bias), r + ((E.getD pos.toNat 0).toNat - 65) * wt, pos + 1⟩, _, _, _, _⟩ (by k_asm) (by k_asm) (fun _ h => h) (by kst_all) ⟨⟨hls.1, Int.lt_trans hls.2 hp2, Int.le_add_one hp3, Int.le_add_one hp4⟩, hdr, ?_, ?_⟩ (by dsimp only; omega)
      · show (r + ((E.getD pos.toNat 0).toNat - 65) * wt) + _ = N
        rw [show ((E.getD pos.toNat 0).toNat : Int) - 65 = dg by omega]; exact hst
      · dsimp only; omega
    · have hch : ((E.getD pos.toNat 0).toNat : Int) = 22 + dg := by rw [hg1, codU_hi _ (by omega) (by omega)]; omega
      k_steps
      refine w_end ⟨⟨(M - tT j bias).fdiv (36 - tT j bias), j + 1, wt * (36 - tT j bias), r + ((E.getD pos.toNat 0).toNat - 22) * wt, pos + 1⟩, _, _, _, _⟩ (by k_asm) (by k_asm) (fun _ h => h) (by kst_all) ⟨⟨hls.1, Int.lt_trans hls.2 hp2, Int.le_add_one hp3, Int.le_add_one hp4⟩, hdr, ?_, ?_⟩ (by dsimp only; omega)
      · show (r + ((E.getD pos.toNat 0).toNat - 22) * wt) + _ = N
        rw [show ((E.getD pos.toNat 0).toNat : Int) - 22 = dg by omega]; exact hst
      · dsimp only; omega
end Mine
end

section
open PySem PySem.W PyProof.Rows
set_option maxRecDepth 100000
set_option maxHeartbeats 8000000
set_option linter.unusedVariables false
set_option linter.unusedSimpArgs false
namespace Mine

/-- the text without words of the codec: each number lays a sign -/
def insP (ch pos : Int) (b : List Nat) : List Int → List Nat
  | [] => b
  | d :: ds => insP (ch + (pos + (d + 1)) / (b.length + 1)) ((pos + (d + 1)) % (b.length + 1)) (b.take ((pos + (d + 1)) % (b.length + 1)).toNat ++ (ch + (pos + (d + 1)) / (b.length + 1)).toNat :: b.drop ((pos + (d + 1)) % (b.length + 1)).toNat) ds

theorem dgn_specI {w mean mg mb} (E : List UInt8) (k N bias : Int) (rest : List UInt8) (te tk0 tb ts : Tok) (hk0 : 0 ≤ k) (hE : E.drop k.toNat = (digs bias N.toNat 0).map codU ++ rest) (hN : 0 ≤ N ∧ N < 1048576) (hlen : E.length ≤ 16777216) :
    Claim w mean mg mb 49 [.bytes E.toArray te, .int k tk0, .int bias tb, .str (Str.ofString "strict") ts] 4 (fun _ => True) (RetTup (fun t1 t2 => #[.int (k + (digs bias N.toNat 0).length) t1, .int N t2])) := by
  obtain ⟨n, rfl⟩ := Int.eq_ofNat_of_zero_le hk0
  exact dgn_spec E n N bias rest te tk0 tb ts hN (by simpa using hE) hlen
theorem up_digs {bias : Int} {n j : Nat} : ((digs bias n j).map codB).map Builtin.Bytes.toUpper = (digs bias n j).map codU := by
  rw [List.map_map]
  exact List.map_congr_left fun d hd => codU_up d (digs_lt bias n j d hd)
theorem qr_le {x n : Int} (hx : 0 ≤ x) (hn : 0 < n) : 0 ≤ x.fdiv n ∧ x.fdiv n + x.fmod n ≤ x := by
  rw [fdiv_ediv _ _ (by omega), fmod_emod _ _ (by omega)]
  have h0 := Int.ediv_nonneg hx (show 0 ≤ n by omega)
  have h1 := Int.mul_ediv_add_emod x n
  have h2 : x / n ≤ n * (x / n) := by
    have := Int.mul_le_mul_of_nonneg_right (show (1 : Int) ≤ n by omega) h0
    omega
  omega
theorem sum_nonneg {l : List Int} (h : ∀ d ∈ l, 0 ≤ d) : 0 ≤ l.sum := by
  induction l with
  | nil => simp
  | cons x l ih =>
    rw [List.sum_cons]
    have := h x (.head _)
    have := ih fun d hd => h d (.tail _ hd)
    omega
theorem digs_pos (bias : Int) (n j : Nat) : 0 < (digs bias n j).length := by
  rw [digs]; split <;> simp

local macro_rules | `(tactic| walk_at "WPost") => `(tactic| dsimp only [WPost])
local macro_rules | `(tactic| walk_at "call ref") => `(tactic| (k_here; k_dflt (refine' adapt_spec _ _ _ _ _ ?kp1 ?kp2 _ _ _ _ _ _ _ _ _ _ _ _ _ _ _ _ _ _ ?k1 ?k2 ?k3 ?k4 ?k5 ?kK ?kd ?ku trivial ?_; (case kp1 => first | assumption | omega); (case kp2 => first | assumption | omega); (case k1 => k_asm); (case k2 => k_asm); (case k3 => k_asm); (case k4 => k_asm); (case k5 => k_asm); (case kK => first | exact rfl | assumption); (case kd => ktr_room); (case ku => ktr_units); intro t9 h9 tk9 F9 N9; (try dsimp only); (try k_fold))))
local macro_rules | `(tactic| walk_at "call ref") => `(tactic| (k_here; k_dflt (refine' dgn_specI _ _ _ _ _ _ _ _ _ ?kp1 ?kp2 ?kp3 ?kp4 _ _ _ _ _ _ _ _ _ _ _ _ _ _ _ _ _ _ ?k1 ?k2 ?k3 ?k4 ?k5 ?kK ?kd ?ku trivial ?_; (case kp2 => assumption); (case kp1 => assumption); (case kp3 => assumption); (case kp4 => assumption); (case k1 => k_asm); (case k2 => k_asm); (case k3 => k_asm); (case k4 => k_asm); (case k5 => k_asm); (case kK => first | exact rfl | assumption); (case kd => ktr_room); (case ku => ktr_units); intro T9 t9 u9 h9 tk9 F9 N9 l9; (try dsimp only); (try k_fold))))

theorem str_parts (b : Str) (p : Int) (c : Nat) (h0 : 0 ≤ p) (h1 : p ≤ b.length) :
    (Txt.slice b none (some p) ++ ⟨#[c]⟩ ++ Txt.slice b (some p) none).cps.toList = b.cps.toList.take p.toNat ++ c :: b.cps.toList.drop p.toNat := by
  rw [Str.cps_append, Str.cps_append, Array.toList_append, Array.toList_append, slice_take b p h0 h1, slice_drop b p h0 h1]
  simp
theorem slice_lens (b : Str) (p : Int) (h0 : 0 ≤ p) (h1 : p ≤ b.length) : (Txt.slice b none (some p)).length = p.toNat ∧ (Txt.slice b (some p) none).length = b.length - p.toNat := by
  have e1 := congrArg List.length (slice_take b p h0 h1)
  have e2 := congrArg List.length (slice_drop b p h0 h1)
  have hl : b.length = b.cps.size := rfl
  simp only [Array.length_toList, List.length_take, List.length_drop] at e1 e2
  refine ⟨?_, ?_⟩
  · show (Txt.slice b none (some p)).cps.size = _; omega
  · show (Txt.slice b (some p) none).cps.size = _; omega
theorem ep_beq {ep : Int} {i : Nat} (h : ep = 0 ↔ i = 0) : (ep == 0) = ((i : Int) == 0) := by
  rw [Bool.eq_iff_iff]; simp [h]

theorem ins_spec {w mean mg mb} (b0 : Str) (ds : List Int) (t1 te ts : Tok) (hds : ∀ d ∈ ds, 0 ≤ d ∧ d < 1048576) (hlen : ds.length ≤ 15) (hb : b0.length < 1000) (hS : 127 + ds.sum + ds.length ≤ 1114111) :
    Claim w mean mg mb 56 [.str b0 t1, .bytes ((encAll b0.length 72 0 ds).map Builtin.Bytes.toUpper).toArray te, .str (Str.ofString "strict") ts] 6 (fun _ => True) (RetFlat (fun t => .str ⟨(insP 128 (-1) b0.cps.toList ds).toArray⟩ t)) := by
  dsimp only [Claim, RetFlat]
  generalize hEE : (encAll b0.length 72 0 ds).map Builtin.Bytes.toUpper = E
  k_fill
  intro dp un gd cn cs a ccd cl outer A₀ base h₀ L m news s Q EE B F X N0 T hk hroom hun hpre hret
  k_dflt (refine' enter [(Str.ofString "errors", .str (Str.ofString "strict") ts), (Str.ofString "extended", .bytes E.toArray te), (Str.ofString "base", .str b0 t1)] B F X N0 T hk (by omega) ?k1 ?k2 ?k3 ?k4 ?k5 ?k6 ?k7 ?k8 ?_; (case k1 => k_is); (case k2 => k_is); (case k3 => exact BindsTo.of_eq rfl); (case k4 => exact locs rfl); (case k5 => exact rfl); (case k6 => exact rfl); (case k7 => exact rfl); (case k8 => decide))
  intro g L' h₁ tk FG F' N' B' X' T'
  k_fold
  k_with_none
  k_with "exec While Compare cons nil" => refine Stop.mk ?_
  k_steps
  refine Stop.out ?_
  refine my_while (σ := (Nat × Int × Int × Int × Int × Str) × Tok × Tok × Tok × Tok × Tok) (fun _ => news)
    (fun c => [(Str.ofString "char", .int c.1.2.1 c.2.1), (Str.ofString "pos", .int c.1.2.2.1 c.2.2.1), (Str.ofString "bias", .int c.1.2.2.2.1 c.2.2.2.1), (Str.ofString "extpos", .int c.1.2.2.2.2.1 c.2.2.2.2.1), (Str.ofString "base", .str c.1.2.2.2.2.2 c.2.2.2.2.2), (Str.ofString "extended", .bytes E.toArray te), (Str.ofString "errors", .str (Str.ofString "strict") ts)])
    (fun c => (c.1.1 ≤ ds.length ∧ 128 ≤ c.1.2.1 ∧ -1 ≤ c.1.2.2.1 ∧ 0 ≤ c.1.2.2.2.2.1) ∧ c.1.2.1 + c.1.2.2.1 + (ds.drop c.1.1).sum + (ds.drop c.1.1).length ≤ 1114111 ∧ E.drop c.1.2.2.2.2.1.toNat = (encAll b0.length c.1.2.2.2.1 c.1.1 (ds.drop c.1.1)).map Builtin.Bytes.toUpper ∧
      c.1.2.2.2.2.2.length = b0.length + c.1.1 ∧ insP c.1.2.1 c.1.2.2.1 c.1.2.2.2.2.2.cps.toList (ds.drop c.1.1) = insP 128 (-1) b0.cps.toList ds ∧ (c.1.2.2.2.2.1 = 0 ↔ c.1.1 = 0) ∧ c.1.2.2.2.2.1 + (encAll b0.length c.1.2.2.2.1 c.1.1 (ds.drop c.1.1)).length = E.length)
    (fun c => ds.length - c.1.1) ⟨⟨0, 128, -1, 72, 0, b0⟩, _, _, _, _, _⟩ (by k_asm) (by k_asm) (by kst_all) ?_ ?_ ?_
  · refine ⟨⟨Nat.zero_le _, Int.le_refl _, Int.le_refl _, Int.le_refl _⟩, ?_, ?_, ?_, ?_, ?_, ?_⟩
    all_goals dsimp only
    · rw [List.drop_zero]; omega
    · rw [List.drop_zero, ← hEE]; rfl
    · rfl
    · rfl
    · simp
    · rw [List.drop_zero, ← hEE, List.length_map]; omega
  · passes_own
  intro c u h1 tk1 hp F1 N1
  obtain ⟨⟨i, ch, pos, bias, ep, b⟩, ta, tc, td, tf, tg⟩ := c
  dsimp only at hp F1 N1 ⊢
  obtain ⟨⟨hp1, hp2, hp3, hp4⟩, hp5, hp6, hp7, hp8, hp9, hp10⟩ := hp
  have hEl : E.length ≤ 16777216 := by
    rw [← hEE, List.length_map]
    have := encAll_len b0.length ds 72 0 hds
    omega
  have hEs : E.toArray.size ≤ 1099511627776 := by simp only [List.size_toArray]; omega
  have hEz : E.toArray.size = E.length := by simp
  rcases Nat.lt_or_ge i ds.length with hil | hil
  · obtain ⟨d, hd⟩ : ∃ d, ds[i]? = some d := ⟨ds[i], List.getElem?_eq_getElem hil⟩
    have hdd := hds d (List.mem_of_getElem? hd)
    have hdr : ds.drop i = d :: ds.drop (i + 1) := by
      have e := List.getElem?_eq_some_iff.mp hd
      rw [List.drop_eq_getElem_cons e.1, e.2]
    rw [hdr] at hp5 hp6 hp8 hp10
    simp only [encAll, List.map_append, up_digs, List.length_append, List.length_map, List.sum_cons, List.length_cons] at hp5 hp6 hp10
    have hpl := digs_pos bias d.toNat 0
    have hbl : b.length < 2000 := by omega
    have hsum := sum_nonneg (l := ds.drop (i + 1)) fun x hx => (hds x (List.mem_of_mem_drop hx)).1
    have hqr := qr_le (x := pos + (d + 1)) (n := b.length + 1) (by omega) (by omega)
    have hfm := fmod_b (pos + (d + 1)) (n := b.length + 1) (by omega)
    have hel : ep < (E.toArray.size : Int) := by rw [hEz]; omega
    k_steps
    have hsl := slice_lens b ((pos + (d + 1)).fmod (b.length + 1)) hfm.1 (by omega)
    have hsp := str_parts b ((pos + (d + 1)).fmod (b.length + 1)) (ch + (pos + (d + 1)).fdiv (b.length + 1)).toNat hfm.1 (by omega)
    have hbn : (b.cps.toList.length : Int) = b.length := by simp [Str.length]
    have hbi : adaptP d (ep == 0) ((Txt.slice b none (some ((pos + (d + 1)).fmod (b.length + 1)))).length + 1 + (Txt.slice b (some ((pos + (d + 1)).fmod (b.length + 1))) none).length : Nat) = adaptP d ((i : Int) == 0) (b0.length + i + 1) := by
      rw [ep_beq hp9]; congr 1; omega
    refine w_end ⟨⟨i + 1, ch + (pos + (d + 1)).fdiv (b.length + 1), (pos + (d + 1)).fmod (b.length + 1), adaptP d (ep == 0) ((Txt.slice b none (some ((pos + (d + 1)).fmod (b.length + 1)))).length + 1 + (Txt.slice b (some ((pos + (d + 1)).fmod (b.length + 1))) none).length : Nat), ep + (digs bias d.toNat 0).length,
      Txt.slice b none (some ((pos + (d + 1)).fmod (b.length + 1))) ++ ⟨#[(ch + (pos + (d + 1)).fdiv (b.length + 1)).toNat]⟩ ++ Txt.slice b (some ((pos + (d + 1)).fmod (b.length + 1))) none⟩, _, _, _, _, _⟩
      (by k_asm) (by k_asm) (fun _ h => .tail _ h) (by kst_all) ⟨⟨hil, ?_, ?_, ?_⟩, ?_, ?_, ?_, ?_, ?_, ?_⟩ ?_
    all_goals dsimp only
    · omega
    · omega
    · omega
    · omega
    · rw [hbi]
      have e : (ep + (digs bias d.toNat 0).length).toNat = ep.toNat + ((digs bias d.toNat 0).map codU).length := by rw [List.length_map]; omega
      rw [e, ← List.drop_drop, hp6, List.drop_left]
    · rw [Str.length_append, Str.length_append]
      show _ + 1 + _ = _
      omega
    · rw [hsp, ← hp8]
      simp only [insP]
      rw [hbn, fdiv_ediv _ _ (by omega), fmod_emod _ _ (by omega)]
    · omega
    · rw [hbi]; omega
    · omega
  · have hie : i = ds.length := by omega
    subst hie
    simp only [List.drop_length, encAll, List.length_nil, insP] at hp8 hp10
    have hel : ¬ ep < (E.toArray.size : Int) := by rw [hEz]; simp at hp10; omega
    k_steps
    refine cb_retS hret ?_ (by k_asm) (by k_asm)
    rw [← hp8]
end Mine
end

section
open PySem PySem.W PyProof.Rows
set_option maxRecDepth 100000
set_option maxHeartbeats 8000000
set_option linter.unusedVariables false
set_option linter.unusedSimpArgs false
namespace Mine

theorem read_spec {w mean mg mb} (b0 : Str) (l : Addr) (vs : List Value) (ds : List Int) (nn : Nat) (t1 : Tok) (hi : IntsAre vs ds) (hds : ∀ d ∈ ds, 0 ≤ d ∧ d < 1048576) (hlen : ds.length ≤ 15) (hb : b0.length < 1000) (hS : 127 + ds.sum + ds.length ≤ 1114111) :
    ClaimR w mean mg mb 75 [.str b0 t1, .ref l] 9 (fun news => (l, listOf vs.toArray nn) ∈ news) (RetFlat (fun t => .str ⟨(insP 128 (-1) b0.cps.toList ds).toArray⟩ t)) := by
  dsimp only [ClaimR, RetFlat]
  k_fill
  intro dp un cn cs a ccd cl outer A₀ base h₀ L m news s Q B F X N0 T hk hroom hun hpre hret
  k_dflt (refine' enterR [(Str.ofString "row", .ref l), (Str.ofString "plain", .str b0 t1)] B F X N0 T hk (by omega) ?k1 ?k2 ?k3 ?k4 ?k5 ?k6 ?k7 ?k8 ?_; (case k1 => k_is); (case k2 => k_is); (case k3 => exact BindsTo.of_eq rfl); (case k4 => exact locs rfl); (case k5 => exact rfl); (case k6 => exact rfl); (case k7 => exact rfl); (case k8 => decide))
  intro g L' h₁ tk FG F' N' hlt B' X' T'
  have hz : (encAll b0.length 72 0 ds).length ≤ 16777216 := by
    have := encAll_len b0.length ds 72 0 hds
    omega
  refine rExecs_cons (rReturn (rCall ?_))
  k_with_none
  walk1
  refine rCallWith rfl (rSpliced_any (bm_if_false rfl ?_))
  walk1
  refine rSpliced_cons (rIfF rfl (rMethod (rCall ?_)))
  walk1
  refine rCallWith rfl (rSpliced_any (bm_if_false rfl ?_))
  k_steps
  refine rSpliced_any (bm_if_false rfl ?_)
  walk1
  rename News g L' _ _ => Nx
  rename Fr g L' _ _ => Fx
  refine rSpliced_nil (rKeep (K := hd.heap_39 w.params) (by k_is) (X'.keeps Fx.keep) ?_)
  refine gi_spec b0.length l vs ds nn _ hi (by omega) hds hlen _ _ _ _ _ _ _ _ _ _ _ _ _ _ _ _ B' Fx X' Nx T' rfl (by show dp + 1 + 6 < _; omega) (by show un + 3 + 8 * 6 < _; omega) hpre ?_
  intro t9 h9 tk9 F9 N9
  clear Fx Nx
  dsimp only
  refine meth_upper ?_
  refine rCallWith rfl (rSpliced_nil (wpAny_pure ⟨.inr rfl, wpR_any (call_upper (by rw [sizeLine_eq]; simpa using hz) ?_)⟩))
  refine rSpliced_any (bm_if_false rfl ?_)
  walk1
  refine rSpliced_nil (rKeep (K := hd.heap_39 w.params) (by k_is) (X'.keeps F9.keep) ?_)
  have eU : upB (encAll b0.length 72 0 ds).toArray = ((encAll b0.length 72 0 ds).map Builtin.Bytes.toUpper).toArray := rfl
  rw [eU]
  refine wpR_any (ins_spec b0 ds _ _ _ hds hlen hb hS _ _ _ _ _ _ _ _ _ _ _ _ _ _ _ _ _ _ B' F9 X' N9 T' rfl (by show dp + 1 + 6 < _; omega) (by show un + 3 + 8 * 6 < _; omega) trivial ?_)
  intro t8 h8 tk8 F8 N8
  exact leaveK_ (h₀ := h₀) (L := L) (m := m) (g := g) (R := fun r s' => match r with | .ok (.ret v) => Q v s' | _ => False) F8 N8 fun kF kN => hret _ _ _ kF kN
end Mine
end

section
open PySem PySem.W PyProof.Rows
set_option maxRecDepth 100000
set_option maxHeartbeats 8000000
set_option linter.unusedVariables false
namespace Mine
open LCg LCt in
def TurnT (prog : Program) (w : World) (A : Around) (h₀ : Heap) (L : Addr) (m : Str → Option Value) (env : Env) (ct elt : Expr) (x : Str) (scope : Scope) (cl : List (Str × Addr)) (s : Shared) (S : List (Addr × Obj) → Prop) (P : Nat → Value → Prop)
    (Nxt : List Value → List (Addr × Obj) → Prop) (i : Nat) (ys : List Value) (news : List (Addr × Obj)) : Prop :=
  ∀ v I oI C oC D m₂ h tk (E' : Value → Shared → Prop), P i v → NsObj oC m₂ → m₂ x = some v → Fr h₀ L h m → News h₀ L h ((I, oI) :: (C, oC) :: (D, lst ys) :: news) → Off3 I C D news → ((@Ne Nat I C) ∧ (@Ne Nat I D) ∧ (@Ne Nat C D)) →
      wpAny (model prog w) A (isTrue ct (compEnvC scope cl C env) (eval ct (compEnvC scope cl C env))) (fun ok s' => if ok = true then
        wpAny (model prog w) A (eval elt (compEnvC scope cl C env)) (CompEnd h₀ L m { s with heap := h, toks := tk } I oI C oC D (lst ys) S (fun y news' => Nxt (ys ++ [y]) news')) E' s'
        else CompEnd h₀ L m { s with heap := h, toks := tk } I oI C oC D (lst ys) S (fun _ news' => Nxt ys news') Value.none s') E' { s with heap := h, toks := tk }
theorem comp_mono {h₀ : Heap} {L I C D : Addr} {m : Str → Option Value} {s₁ : Shared} {oI oC oD : Obj} {S : List (Addr × Obj) → Prop} {r1 r2 : Value → List (Addr × Obj) → Prop} {y : Value} {s₂ : Shared} (hr : ∀ y n, r1 y n → r2 y n)
    (h : LCg.CompEnd h₀ L m s₁ I oI C oC D oD S r1 y s₂) : LCg.CompEnd h₀ L m s₁ I oI C oC D oD S r2 y s₂ := by
  obtain ⟨h', tk, news', e, F, N, o, hS, r⟩ := h
  exact ⟨h', tk, news', e, F, N, o, hS, hr _ _ r⟩
theorem restT {prog : Program} {w : World} {A : Around} {h₀ : Heap} {L : Addr} {m : Str → Option Value} {env : Env} {ct elt : Expr} {x : Str} {scope : Scope} {cl : List (Str × Addr)} {s : Shared} {S : List (Addr × Obj) → Prop} {P : Nat → Value → Prop} {Fin : List Value → List (Addr × Obj) → Prop}
    (Inv : Nat → List Value → List (Addr × Obj) → Prop) (n : Nat) {ys : List Value} {news : List (Addr × Obj)} (h0 : Inv 0 ys news) (hfin : ∀ ys news, Inv n ys news → Fin ys news)
    (hstep : ∀ i ys news, i < n → Inv i ys news → TurnT prog w A h₀ L m env ct elt x scope cl s S P (Inv (i + 1)) i ys news) :
    LCt.CompRestT prog w A h₀ L m env ct elt x scope cl s S P Fin n 0 ys news := by
  have key : ∀ k i ys news, i + k = n → Inv i ys news → LCt.CompRestT prog w A h₀ L m env ct elt x scope cl s S P Fin k i ys news := by
    intro k
    induction k with
    | zero =>
      intro i ys news e hI
      refine LCt.CompRestT.zero (hfin _ _ ?_)
      rw [← e]; exact hI
    | succ k ih =>
      intro i ys news e hI
      refine LCt.CompRestT.succ ?_
      intro v I oI C oC D m₂ h tk E' hP hN hx F N off ne
      refine wpAny_mono (hstep i ys news (by omega) hI v I oI C oC D m₂ h tk E' hP hN hx F N off ne) (fun ok s' hh => ?_) fun _ _ e => e
      cases ok with
      | true =>
        simp only [if_true] at hh ⊢
        exact wpAny_mono hh (fun y s2 h2 => comp_mono (fun y n' r => ih (i + 1) _ _ (by omega) r) h2) fun _ _ e => e
      | false =>
        simp only [Bool.false_eq_true, if_false] at hh ⊢
        exact comp_mono (fun y n' r => ih (i + 1) _ _ (by omega) r) hh
  exact key n 0 ys news (by omega) h0
end Mine
end

section
open PySem PySem.W PyProof.Rows
set_option maxRecDepth 100000
set_option maxHeartbeats 8000000
set_option linter.unusedVariables false
namespace Mine
theorem strs_snoc {vs : List Value} {ys : List Str} (h : StrsAre vs ys) (y : Str) (t : Tok) : StrsAre (vs ++ [.str y t]) (ys ++ [y]) := by
  induction h with
  | nil => exact .cons _ _ .nil
  | cons y' t' _ ih => exact .cons _ _ ih
theorem join_signs (l : List Nat) : Txt.join (Str.ofString "") (l.map fun c => (⟨#[c]⟩ : Str)) = ⟨l.toArray⟩ := by
  have this : ∀ (l : List Nat) (acc : Array Nat), (l.map fun c => (⟨#[c]⟩ : Str)).foldl (fun acc p => acc ++ (Str.ofString "").cps ++ p.cps) acc = acc ++ l.toArray := by
    intro l
    induction l with
    | nil => intro acc; simp
    | cons c l ih =>
      intro acc
      simp only [List.map_cons, List.foldl_cons]
      rw [ih]
      have e : (Str.ofString "").cps = #[] := by rfl
      rw [e]
      simp
  cases l with
  | nil => rfl
  | cons c l =>
    show (⟨(l.map fun c => (⟨#[c]⟩ : Str)).foldl (fun acc p => acc ++ (Str.ofString "").cps ++ p.cps) #[c]⟩ : Str) = _
    rw [this]
    simp
def sel (ds : List Int) : List Int := ds.filter (fun c => decide (c.fmod 4 = 0))
def sg (c : Int) : Nat := ((c.fdiv 4).fmod 128).toNat
theorem take_snoc {ds : List Int} {i : Nat} {d : Int} (h : ds[i]? = some d) : ds.take (i + 1) = ds.take i ++ [d] := by
  obtain ⟨h1, h2⟩ := List.getElem?_eq_some_iff.mp h
  rw [List.take_succ_eq_append_getElem h1, h2]
theorem plain_spec {w mean mg mb} (l : Addr) (vs : List Value) (ds : List Int) (nn : Nat) (hi : IntsAre vs ds) (hlen : ds.length ≤ 4) :
    Claim w mean mg mb 61 [.ref l] 4 (fun news => (l, listOf vs.toArray nn) ∈ news) (RetFlat (fun t => .str ⟨((sel ds).map sg).toArray⟩ t)) := by
  dsimp only [Claim, RetFlat]
  k_fill
  intro dp un gd cn cs a ccd cl outer A₀ base h₀ L m news s Q E B F X N T hk hroom hun hpre hret
  k_dflt (refine' enter [(Str.ofString "cells", .ref l)] B F X N T hk (by omega) ?k1 ?k2 ?k3 ?k4 ?k5 ?k6 ?k7 ?k8 ?_; (case k1 => k_is); (case k2 => k_is); (case k3 => exact BindsTo.of_eq rfl); (case k4 => exact locs rfl); (case k5 => exact rfl); (case k6 => exact rfl); (case k7 => exact rfl); (case k8 => decide))
  intro g L' h₁ tk FG F' N' B' X' T'
  k_fold
  k_with_none
  k_with "eval ListComp" => refine Stop.mk ?_
  k_steps
  refine Stop.out ?_
  refine LCt.ListComp_T (F₀ := by k_asm) (by with_unfolding_all rfl) (by decide) (by rfl) (by decide) (by rfl) ?_
  have hvl : vs.length = ds.length := hi.length
  have hsz : vs.toArray.size ≤ sizeLine := by
    rw [sizeLine_eq]; simp only [List.size_toArray]; omega
  walk1
  refine LCt.CompSrcT.ledger (by rfl) (by k_asm) (by k_asm) hpre hsz ?_
  intro g'
  refine restT (fun i ys nw => nw = news ∧ StrsAre ys ((sel (ds.take i)).map fun c => ⟨#[sg c]⟩)) _ ⟨rfl, by simp [sel]; exact .nil⟩ ?_ ?_
  · rintro ys nw ⟨rfl, hys⟩
    intro D h tk FF NN off
    clear F' N'
    rw [List.take_of_length_le (by simp [hvl])] at hys
    have hsl : (sel ds).length ≤ 4 := Nat.le_trans (List.length_filter_le _ _) hlen
    dsimp only
    walk1
    refine join_list (ys := (sel ds).map fun c => ⟨#[sg c]⟩) (items := ys.toArray) ⟨_, (NN (D, LCg.lst ys) (.head _)).1, rfl, _, rfl⟩ (by simpa using hys) ?_ ?_
    · rw [sumLen_of_ones _ (by intro a ha; obtain ⟨b, _, rfl⟩ := List.mem_map.mp ha; rfl)]
      have z : (Str.ofString "").length = 0 := by decide
      rw [z]; simp; omega
    · intro t' k
      have e := join_signs ((sel ds).map sg)
      rw [List.map_map] at e
      change Txt.join (Str.ofString "") (List.map (fun c => (⟨#[sg c]⟩ : Str)) (sel ds)) = _ at e
      rw [e]
      k_steps
      refine cb_retS hret rfl (by k_asm) (cb_drop (by k_asm) fun p hp => .tail _ hp)
  · rintro i ys nw hin ⟨rfl, hys⟩ v I oI C oC D m₂ h tk E' hv hC hx FF NN off ne
    obtain ⟨d, t, rfl, hd⟩ := hi.at i v (by simpa using hv)
    clear F' N'
    k_steps
    · refine LCg.CompEnd.intro FF NN nw (fun p hp => hp) off (.inr ⟨_, hpre, rfl, _, rfl⟩) ⟨rfl, ?_⟩
      have hd0 : d.fmod 4 = 0 := by assumption
      rw [take_snoc hd]
      have : sel (ds.take i ++ [d]) = sel (ds.take i) ++ [d] := by simp [sel, hd0]
      rw [this, List.map_append]
      exact strs_snoc hys _ _
    · refine LCg.CompEnd.intro FF NN nw (fun p hp => hp) off (.inr ⟨_, hpre, rfl, _, rfl⟩) ⟨rfl, ?_⟩
      have hd0 : ¬ d.fmod 4 = 0 := by assumption
      rw [take_snoc hd]
      have : sel (ds.take i ++ [d]) = sel (ds.take i) := by simp [sel, hd0]
      rw [this]
      exact hys
end Mine
end

section
open PySem PySem.W PyProof.Rows
set_option maxRecDepth 100000
set_option maxHeartbeats 8000000
set_option linter.unusedVariables false
set_option linter.unusedSimpArgs false
namespace Mine
section
variable {prog : Program} {w : World} {A : Around} {Q : Flow → Shared → Prop} {s : Shared} {env : Env} {h₀ : Heap}
theorem fresh_none {h : Heap} {L : Addr} {m : Str → Option Value} (F : Fr h₀ L h m) {b : Nat} (hb : h.objs.size ≤ b) : h₀.get? b = none := by
  cases e : h₀.get? b with
  | none => rfl
  | some o => exact absurd (Heap.lt_size (F.keep b o e)) (Nat.not_lt.mpr hb)
theorem forList {σ : Type} {x : Str} {px : Pos} {body : List Stmt} {news : List (Addr × Obj)} {l ra : Addr} {its : Array Value} {nn : Nat} {m₀ : Str → Option Value} (hh : A.handled = none) (hmem : (l, listOf its nn) ∈ news) (hra : ∀ p ∈ news, p.1 < ra)
    (o : σ → Obj) (ps : σ → List (Str × Value)) (P : Nat → σ → Prop) (c₀ : σ)
    (F : Fr h₀ env.locals s.heap m₀) (N : News h₀ env.locals s.heap ((ra, o c₀) :: news)) (hk : ∀ p ∈ ps c₀, m₀ p.1 = some p.2) (hp : P 0 c₀)
    (turn : ∀ (c : σ) (i : Nat) (v : Value) (u : Str → Option Value) h tk own, i < its.size → its[i]? = some v → P i c → (∀ p ∈ news ++ own, p.1 ≠ ra) → Fr h₀ env.locals h (kstB u (ps c)) → News h₀ env.locals h ((ra, o c) :: (news ++ own)) →
      wpAny (model prog w) A (assign (.Name x px) env v) (fun _ s₂ => wpR (model prog w) A (execs body env) (FPost h₀ env.locals s (fun c => (ra, o c) :: news) ps (P (i + 1)) own Q) s₂) NF { s with heap := h, toks := tk })
    (done : ∀ (c : σ) (u : Str → Option Value) h tk, P its.size c → Fr h₀ env.locals h (kstB u (ps c)) → News h₀ env.locals h ((ra, o c) :: news) → Q .next { s with heap := h, toks := tk }) :
    wpAny (model prog w) A (pyIter (.ref l)) (fun it s₂ => codeR (model prog w) A (.forLoop (.Name x px) it body [] env) Q s₂) NF s := by
  have hN := N _ (.tail _ hmem)
  have hl : s.heap.IsList l its := ⟨_, hN.1, rfl, _, rfl⟩
  have hll : l < s.heap.objs.size := Heap.lt_size hN.1
  have hLs : env.locals < s.heap.objs.size := F.ns.lt
  have hras : ra < s.heap.objs.size := Heap.lt_size (N _ (.head _)).1
  refine wpAny_pyIter_list hl ?_
  have up : ∀ b o, s.heap.get? b = some o → (s.heap.push { cls := .type "list_iterator", data := .fields #[.ref l, .int 0 0] }).get? b = some o := fun b o e => Heap.get?_push_of_some _ e
  refine codeR_for (σ := σ) (h₀ := h₀) (fun c => (ra, o c) :: news) ps P c₀ (KTurns.ofWalks (Walks.list hh s.heap.objs.size l (Nat.ne_of_lt hll) its) fun i v s' Q' E' st h' => letGo_listiter st.1 h') ?_ ?_ ?_ ⟨⟨_, Heap.get?_push_size _ rfl, rfl, rfl⟩, hl.push _⟩ (F.keeps up) (N.grown up) hk hp ?_ done
  · intro hm
    simp only [List.mem_cons, List.not_mem_nil, or_false] at hm
    rcases hm with e | e
    · exact absurd hLs (by rw [e]; exact Nat.lt_irrefl _)
    · exact hN.2.1 e.symm
  · intro b hb
    rw [List.mem_singleton.mp hb]
    exact fresh_none F (Nat.le_refl _)
  · intro c p hp hm
    have hlt9 : p.1 < s.heap.objs.size := by
      rcases List.mem_cons.mp hp with rfl | hp
      · exact hras
      · exact Nat.lt_trans (hra p hp) hras
    rw [List.mem_singleton.mp hm] at hlt9
    exact absurd hlt9 (Nat.lt_irrefl _)
  · intro c i v u h tk own hin hPi hP hown F1 N1
    refine turn c i v u h tk own hin hPi hP ?_ F1 N1
    intro p hp
    rcases List.mem_append.mp hp with hp | hp
    · exact Nat.ne_of_lt (hra p hp)
    · have := hown p hp
      simp only [List.mem_cons, List.not_mem_nil, or_false] at this
      rcases this with e | e
      · rw [e]; exact Nat.ne_of_gt hras
      · rw [e]; exact Nat.ne_of_lt (hra _ hmem)
theorem forRange {σ : Type} {x : Str} {px : Pos} {body : List Stmt} {news : List (Addr × Obj)} {r ra : Addr} {a b : Int} {t1 t2 t3 : Tok} {n : Nat} {m₀ : Str → Option Value} (hh : A.handled = none) (hr : IsRange s.heap r a b 1 t1 t2 t3) (hsm : Builtin.Range.small a b 1 = true) (hn : Builtin.Range.rangeSize a b 1 = (n : Int)) (hra : ∀ p ∈ news, p.1 < ra)
    (o : σ → Obj) (ps : σ → List (Str × Value)) (P : Nat → σ → Prop) (c₀ : σ)
    (F : Fr h₀ env.locals s.heap m₀) (N : News h₀ env.locals s.heap ((ra, o c₀) :: news)) (hk : ∀ p ∈ ps c₀, m₀ p.1 = some p.2) (hp : P 0 c₀)
    (turn : ∀ (c : σ) (i : Nat) (t : Tok) (u : Str → Option Value) h tk own, i < n → P i c → (∀ p ∈ news ++ own, p.1 ≠ ra) → Fr h₀ env.locals h (kstB u (ps c)) → News h₀ env.locals h ((ra, o c) :: (news ++ own)) →
      wpAny (model prog w) A (assign (.Name x px) env (.int (a + (i : Int)) t)) (fun _ s₂ => wpR (model prog w) A (execs body env) (FPost h₀ env.locals s (fun c => (ra, o c) :: news) ps (P (i + 1)) own Q) s₂) NF { s with heap := h, toks := tk })
    (done : ∀ (c : σ) (u : Str → Option Value) h tk, P n c → Fr h₀ env.locals h (kstB u (ps c)) → News h₀ env.locals h ((ra, o c) :: news) → Q .next { s with heap := h, toks := tk }) :
    wpAny (model prog w) A (pyIter (.ref r)) (fun it s₂ => codeR (model prog w) A (.forLoop (.Name x px) it body [] env) Q s₂) NF s := by
  have hLs : env.locals < s.heap.objs.size := F.ns.lt
  have hras : ra < s.heap.objs.size := Heap.lt_size (N _ (.head _)).1
  refine wpAny_pyIter_range hr hsm ?_
  have up : ∀ d o, s.heap.get? d = some o → (s.heap.push { cls := .type "range_iterator", data := .fields #[rawInt a, rawInt (Builtin.Range.rangeSize a b 1), rawInt 1] }).get? d = some o := fun b o e => Heap.get?_push_of_some _ e
  refine codeR_for (σ := σ) (h₀ := h₀) (fun c => (ra, o c) :: news) ps P c₀ (KTurns.ofWalks (LCg.range_walks (I := s.heap.objs.size) hh a n) fun i v s' Q' E' st h' => wpAny_pure h') ?_ ?_ ?_ (by show IsRangeIter _ _ _ _ _; rw [hn]; simpa using Heap.get?_push_size _ rfl) (F.keeps up) (N.grown up) hk hp ?_ done
  · intro hm
    rw [List.mem_singleton.mp hm] at hLs
    exact absurd hLs (Nat.lt_irrefl _)
  · intro b hb
    rw [List.mem_singleton.mp hb]
    exact fresh_none F (Nat.le_refl _)
  · intro c p hp hm
    have hlt9 : p.1 < s.heap.objs.size := by
      rcases List.mem_cons.mp hp with rfl | hp
      · exact hras
      · exact Nat.lt_trans (hra p hp) hras
    rw [List.mem_singleton.mp hm] at hlt9
    exact absurd hlt9 (Nat.lt_irrefl _)
  · intro c i v u h tk own hin hPi hP hown F1 N1
    obtain ⟨t, rfl⟩ := hPi
    refine turn c i t u h tk own hin hP ?_ F1 N1
    intro p hp
    rcases List.mem_append.mp hp with hp | hp
    · exact Nat.ne_of_lt (hra p hp)
    · have := hown p hp
      rw [List.mem_singleton.mp this]; exact Nat.ne_of_gt hras
end
end Mine
end

section
open PySem PySem.W PyProof.Rows
set_option maxRecDepth 100000
set_option maxHeartbeats 8000000
set_option linter.unusedVariables false
namespace Mine
abbrev RetInts (ns : List Int) (h₀ : Heap) (L : Addr) (m : Str → Option Value) (news : List (Addr × Obj)) (Q : Value → Heap → Nat → Prop) : Prop :=
  ∀ (D : Addr) (vs : List Value) (nn : Nat) (h' : Heap) (tk' : Nat), IntsAre vs ns → Fr h₀ L h' m → News h₀ L h' ((D, listOf vs.toArray nn) :: news) → Q (.ref D) h' tk'
def md (c : Int) : Int := if c.fmod 4 = 1 then 4 else if c.fmod 4 = 2 then 60 else 9000
def rowP (ds : List Int) : List Int := (ds.filter (fun c => decide (c.fmod 4 > 0))).map fun c => (c.fdiv 4).fmod (md c)
theorem app_upd {h₀ h h' : Heap} {L a : Addr} {m : Str → Option Value} {o o' : Obj} {rest : List (Addr × Obj)} (F : Fr h₀ L h m) (N : News h₀ L h ((a, o) :: rest)) (hs : Heap.SameBut a h h') (hg : h'.get? a = some o') (hne : ∀ p ∈ rest, p.1 ≠ a) :
    Fr h₀ L h' m ∧ News h₀ L h' ((a, o') :: rest) := by
  have h1 := N _ (.head _)
  refine ⟨F.change hs h1.2.1 h1.2.2, fun p hp => ?_⟩
  rcases List.mem_cons.mp hp with rfl | hp'
  · exact ⟨hg, h1.2⟩
  · exact ⟨hs.extBut _ _ (hne p hp') (N p (.tail _ hp')).1, (N p (.tail _ hp')).2⟩

theorem app_list {prog : Program} {w : World} {A : Around} {E : Value → Shared → Prop} {Q : Value → Shared → Prop} {s : Shared} {h₀ : Heap} {L ra : Addr} {m : Str → Option Value} {c : List Value} {x : Value} {rest : List (Addr × Obj)} {nn : Nat}
    (F : Fr h₀ L s.heap m) (N : News h₀ L s.heap ((ra, listOf c.toArray nn) :: rest)) (hne : ∀ p ∈ rest, p.1 ≠ ra) (hsz : c.length ≤ 1000)
    (h : ∀ h' c', c' = c ++ [x] → Fr h₀ L h' m → News h₀ L h' ((ra, listOf c'.toArray (nn + 1)) :: rest) → Q .none { s with heap := h' }) :
    wpAny (model prog w) A (call (.builtin "list.append") [.ref ra, x]) Q E s := by
  refine append_at (N _ (.head _)).1 (fun h3 hs3 hg3 => ?_) (by rw [sizeLine_eq]; simp only [List.size_toArray]; omega)
  rw [List.push_toArray] at hg3
  obtain ⟨F3, N3⟩ := app_upd F N hs3 hg3 hne
  exact h h3 _ rfl F3 N3

theorem news_pick {h₀ h : Heap} {L a : Addr} {o : Obj} {b c : Addr × Obj} {news : List (Addr × Obj)} (N : News h₀ L h ((a, o) :: b :: c :: news)) : News h₀ L h ((a, o) :: news) := fun p hp => by
  rcases List.mem_cons.mp hp with rfl | hp
  · exact N _ (.head _)
  · exact N _ (.tail _ (.tail _ (.tail _ hp)))

theorem row_spec {w mean mg mb} (l : Addr) (vs : List Value) (ds : List Int) (nn : Nat) (hi : IntsAre vs ds) (hlen : ds.length ≤ 4) :
    ClaimR w mean mg mb 68 [.ref l] 4 (fun news => (l, listOf vs.toArray nn) ∈ news) (RetInts (rowP ds ++ [30, 0, 7])) := by
  dsimp only [ClaimR, RetInts]
  k_fill
  intro dp un cn cs a ccd cl outer A₀ base h₀ L m news s Q B F X N0 T hk hroom hun hpre hret
  k_dflt (refine' enterR [(Str.ofString "cells", .ref l)] B F X N0 T hk (by omega) ?k1 ?k2 ?k3 ?k4 ?k5 ?k6 ?k7 ?k8 ?_; (case k1 => k_is); (case k2 => k_is); (case k3 => exact BindsTo.of_eq rfl); (case k4 => exact locs rfl); (case k5 => exact rfl); (case k6 => exact rfl); (case k7 => exact rfl); (case k8 => decide))
  intro g L' h₁ tk FG F' N' hlt B' X' T'
  have hnl : ∀ p ∈ news, p.1 < h₁.objs.size := fun p hp => Heap.lt_size (N' p hp).1
  refine rExecs_any ?_
  k_with_none
  k_steps
  rename ∀ p ∈ news, p.1 < _ => hra0
  refine rExecs_cons (rFor ?_)
  k_steps
  rename ∀ p ∈ news, (p.1 : Nat) < _ => hra
  rename News g L' _ _ => Nx
  rename Fr g L' _ _ => Fx
  rename Heap => hx
  rename Addr => ra
  have hvl : vs.length = ds.length := hi.length
  refine forList (σ := List Value) (h₀ := g) rfl hpre hra (fun c => listOf c.toArray c.length) (fun c => [(Str.ofString "row", .ref ra)]) (fun i c => IntsAre c (rowP (ds.take i))) [] Fx Nx (by kst_all) (by simp [rowP]; exact .nil) ?_ ?_
  · intro c i v u h tk own hin hv hP hne F1 N1
    clear Fx Nx
    obtain ⟨d, t, rfl, hd⟩ := hi.at i v (by simpa using hv)
    dsimp only at F1 N1 hP ⊢
    have hm := fmod_b d (n := 4) (by omega)
    have hmd : ([4, 60, 9000] : List Int).getD (d.fmod 4 - 1).toNat 0 = md d ∨ d.fmod 4 = 0 := by
      unfold md
      have : d.fmod 4 = 0 ∨ d.fmod 4 = 1 ∨ d.fmod 4 = 2 ∨ d.fmod 4 = 3 := by omega
      rcases this with e | e | e | e <;> rw [e] <;> simp
    have hnz : ([4, 60, 9000] : List Int).getD (d.fmod 4 - 1).toNat 0 ≠ 0 := by
      have : d.fmod 4 = 0 ∨ d.fmod 4 = 1 ∨ d.fmod 4 = 2 ∨ d.fmod 4 = 3 := by omega
      rcases this with e | e | e | e <;> rw [e] <;> decide
    k_steps
    refine rExecs_any ?_
    k_with "call builtin:list.append" => refine Stop.mk ?_
    k_steps
    · refine Stop.out ?_
      rename News g L' _ _ => Nx
      rename Fr g L' _ _ => Fx
      have hdp : 0 < d.fmod 4 := by assumption
      have N9 : News g L' _ ((ra, listOf c.toArray c.length) :: (news ++ own)) := fun p hp => Nx p (.tail _ hp)
      have hcl : c.length ≤ 4 := by
        rw [hP.length]; unfold rowP; rw [List.length_map]
        exact Nat.le_trans (List.length_filter_le _ _) (by rw [List.length_take]; omega)
      refine app_list Fx N9 hne (by omega) fun h3 c3 hc3 F3 N3 => ?_
      clear Fx Nx N9
      k_steps
      dsimp only
      refine rExecs_nil ?_
      refine f_end c3 F3 N3 ?_ (fun p hp => .tail _ (List.mem_append_right _ hp)) (by kst_all) ?_
      · intro p hp
        rcases List.mem_cons.mp hp with rfl | hp
        · have : c3.length = c.length + 1 := by rw [hc3]; simp
          rw [this]
          exact .head _
        · exact .tail _ (List.mem_append_left _ hp)
      · rw [take_snoc hd]
        have e : rowP (ds.take i ++ [d]) = rowP (ds.take i) ++ [(d.fdiv 4).fmod (md d)] := by simp [rowP, hdp]
        rw [e, hc3]
        rcases hmd with hmd | hmd
        · rw [hmd]; exact hP.append (.cons _ _ .nil)
        · omega
    · dsimp only
      rename News g L' _ _ => Nx
      rename Fr g L' _ _ => Fx
      have hdp : ¬ 0 < d.fmod 4 := by assumption
      refine rExecs_nil ?_
      refine f_end c Fx Nx ?_ (fun p hp => .tail _ (List.mem_append_right _ hp)) (by kst_all) ?_
      · intro p hp
        rcases List.mem_cons.mp hp with rfl | hp
        · exact .head _
        · exact .tail _ (List.mem_append_left _ hp)
      · rw [take_snoc hd]
        have e : rowP (ds.take i ++ [d]) = rowP (ds.take i) := by simp [rowP, hdp]
        rw [e]; exact hP
  · intro c u h tk hP F1 N1
    clear Fx Nx
    dsimp only at F1 N1 hP ⊢
    have hcl : c.length ≤ 4 := by
      rw [hP.length]; unfold rowP; rw [List.length_map]
      exact Nat.le_trans (List.length_filter_le _ _) (by rw [List.length_take]; omega)
    have hcl' : c.toArray.size ≤ 4 := by simpa using hcl
    rw [List.take_of_length_le (by simp [hvl])] at hP
    refine rExecs_any ?_
    k_steps
    rename News h₀ L _ _ => kN
    refine hret _ _ 0 _ _ ?_ (by k_asm) (news_pick kN)
    exact hP.append (.cons _ _ (.cons _ _ (.cons _ _ .nil)))
end Mine
end

section
open PySem PySem.W PyProof.Rows
set_option maxRecDepth 100000
set_option maxHeartbeats 8000000
set_option linter.unusedVariables false
namespace Mine
def Pairs (news : List (Addr × Obj)) (vs : List Value) (cs : List (Int × Int)) : Prop :=
  vs.length = cs.length ∧ ∀ i, i < cs.length → ∃ T t1 t2, vs[i]? = some (.ref T) ∧ (T, tupObj #[.int (cs.getD i (0, 0)).1 t1, .int (cs.getD i (0, 0)).2 t2]) ∈ news
def numb (ds : List Int) (cs : List (Int × Int)) (g i : Nat) : Int :=
  ds.getD i 0 - ((cs.getD i (0, 0)).1 - (cs.getD (i - 1) (0, 0)).1) - (if (cs.getD i (0, 0)).2 > (cs.getD g (0, 0)).2 then 1 else 0) + (if (cs.getD (i - 1) (0, 0)).2 > (cs.getD g (0, 0)).2 then 1 else 0) + (if i = g + 1 then ds.getD g 0 + 1 else 0)
def withoutP (ds : List Int) (cs : List (Int × Int)) (g : Nat) : List Int := ds.take g ++ (List.range (ds.length - (g + 1))).map fun j => numb ds cs g (g + 1 + j)
section
variable {prog : Program} {w : World} {A : Around} {E : Value → Shared → Prop} {s : Shared} {value slice : Expr} {l : Addr} {vs : List Value} {k : Int} {u : Tok} {Q : Value → Shared → Prop} {h₀ : Heap} {L : Addr} {news news' : List (Addr × Obj)} {nn : Nat}
theorem item_pairs {cs : List (Int × Int)} (hl : (l, listOf vs.toArray nn) ∈ news) (N : News h₀ L s.heap news') (sub : ∀ p ∈ news, p ∈ news') (hp : Pairs news vs cs) (h0 : 0 ≤ k) (h1 : k < cs.length) (hc : cs.length ≤ 1000)
    (h : ∀ T t1 t2, (T, tupObj #[.int (cs.getD k.toNat (0, 0)).1 t1, .int (cs.getD k.toNat (0, 0)).2 t2]) ∈ news → Q (.ref T) s)
    (hs : subscripted slice false (.ref l) (.int k u) = operate [.ref l, .int k u] (getItem (.ref l) (.int k u)) := by with_unfolding_all rfl) :
    wpAny (model prog w) A (subscriptTail value slice (.ref l) (.int k u)) Q E s := by
  obtain ⟨T, t1, t2, hT, hm⟩ := hp.2 k.toNat (by omega)
  exact item_litK (vs := vs) ⟨_, (N _ (sub _ hl)).1, rfl, _, rfl⟩ h0 (by omega) hT (h T t1 t2 hm) hs
theorem item_row {ds : List Int} (hl : (l, listOf vs.toArray nn) ∈ news) (N : News h₀ L s.heap news') (sub : ∀ p ∈ news, p ∈ news') (hi : IntsAre vs ds) (h0 : 0 ≤ k) (h1 : k < ds.length) (hc : ds.length ≤ 1000)
    (h : ∀ t, Q (.int (ds.getD k.toNat 0) t) s)
    (hs : subscripted slice false (.ref l) (.int k u) = operate [.ref l, .int k u] (getItem (.ref l) (.int k u)) := by with_unfolding_all rfl) :
    wpAny (model prog w) A (subscriptTail value slice (.ref l) (.int k u)) Q E s :=
  item_anyK (vs := vs) ⟨_, (N _ (sub _ hl)).1, rfl, _, rfl⟩ hi h0 h1 (by omega) h hs
theorem item_pair {T : Addr} {a b : Value} (hT : (T, tupObj #[a, b]) ∈ news) (N : News h₀ L s.heap news') (sub : ∀ p ∈ news, p ∈ news') (hk : k = 0 ∨ k = 1) (h : Q (if k = 0 then a else b) s)
    (hs : subscripted slice false (.ref T) (.int k u) = operate [.ref T, .int k u] (getItem (.ref T) (.int k u)) := by with_unfolding_all rfl) :
    wpAny (model prog w) A (subscriptTail value slice (.ref T) (.int k u)) Q E s := by
  have ht : IsTup s.heap T #[a, b] := ⟨_, (N _ (sub _ hT)).1, rfl, _, rfl⟩
  rcases hk with rfl | rfl
  · exact tail_any ht.typeIs slot_tuple_getitem.lookup (getItem_tuple ht (by omega) (by omega) (j := 0) rfl rfl h) hs
  · exact tail_any ht.typeIs slot_tuple_getitem.lookup (getItem_tuple ht (by omega) (by omega) (j := 1) rfl rfl h) hs
theorem len_row {ds : List Int} (hl : (l, listOf vs.toArray nn) ∈ news) (N : News h₀ L s.heap news') (sub : ∀ p ∈ news, p ∈ news') (hi : IntsAre vs ds) (hc : ds.length ≤ 1000)
    (h : Q (.int ds.length (s.toks + 1)) { s with toks := s.toks + 1 + 1 }) : wpAny (model prog w) A (call (.builtin "len") [.ref l]) Q E s := by
  have e : vs.toArray.size = ds.length := by simp [hi.length]
  exact len_list (items := vs.toArray) ⟨_, (N _ (sub _ hl)).1, rfl, _, rfl⟩ (by rw [e]; omega) (by rw [e]; exact h)
theorem small_range {a b : Int} (h0 : 0 ≤ a) (h1 : a ≤ b) (h2 : b ≤ 100000) : Builtin.Range.small a b 1 = true ∧ Builtin.Range.rangeSize a b 1 = ((b - a).toNat : Int) := by
  have e : Builtin.Range.rangeSize a b 1 = ((b - a).toNat : Int) := by
    unfold Builtin.Range.rangeSize
    rw [if_pos (by omega)]
    split <;> omega
  refine ⟨?_, e⟩
  unfold Builtin.Range.small
  rw [e]
  simp only [Builtin.Range.rangeFitsLong, Bool.and_eq_true, Bool.or_eq_true, decide_eq_true_eq]
  refine ⟨by omega, .inr ?_⟩
  rw [if_pos (by omega)]
  simp only [Bool.and_eq_true, decide_eq_true_eq]
  omega
end
local macro_rules | `(tactic| walk_at "call builtin:len") => `(tactic| (k_here; (with_reducible show wpAny _ _ (call (Value.builtin "len") [Value.ref _]) _ _ _); k_dflt (refine' len_row ?k1 ?k2 ?k3 ?k4 ?k5 ?_; (case k1 => with_reducible assumption); (case k4 => with_reducible assumption); (case k2 => k_asm); (case k3 => intro p hp; simp [hp]); (case k5 => omega))))
local macro_rules | `(tactic| walk_at "subscriptTail") => `(tactic| (k_here; (with_reducible show wpAny _ _ (subscriptTail _ _ (Value.ref _) (Value.int _ _)) _ _ _); k_dflt (first
  | (refine' item_pair ?k1 ?k2 ?k3 ?k4 ?_ ?k5; (case k1 => with_reducible assumption); (case k2 => k_asm); (case k3 => intro p hp; simp [hp]); (case k4 => first | exact Or.inl rfl | exact Or.inr rfl); (case k5 => with_unfolding_all rfl); (first | rw [if_pos rfl] | rw [if_neg (by decide)]))
  | (refine' item_pairs ?k1 ?k2 ?k3 ?k6 ?k4 ?k5 ?k7 ?_ ?k8; (case k1 => with_reducible assumption); (case k6 => with_reducible assumption); (case k2 => k_asm); (case k3 => intro p hp; simp [hp]); (case k4 => omega); (case k5 => omega); (case k7 => omega); (case k8 => with_unfolding_all rfl); intro T9 t9 t8 hT9)
  | (refine' item_row ?k1 ?k2 ?k3 ?k6 ?k4 ?k5 ?k7 ?_ ?k8; (case k1 => with_reducible assumption); (case k6 => with_reducible assumption); (case k2 => k_asm); (case k3 => intro p hp; simp [hp]); (case k4 => omega); (case k5 => omega); (case k7 => omega); (case k8 => with_unfolding_all rfl); intro t9))))

theorem int_one {x y : Int} (t : Tok) (h : x = y) : IntsAre [.int x t] [y] := h ▸ .cons _ _ .nil
theorem without_spec {w mean mg mb} (l r : Addr) (vs rs : List Value) (ds : List Int) (cs : List (Int × Int)) (nn mm gi : Nat) (t1 : Tok) (hi : IntsAre vs ds) (hlen : ds.length ≤ 15) (hcs : cs.length = ds.length) (hgi : gi < ds.length) :
    ClaimR w mean mg mb 87 [.ref l, .ref r, .int gi t1] 4 (fun news => (l, listOf vs.toArray nn) ∈ news ∧ (r, listOf rs.toArray mm) ∈ news ∧ Pairs news rs cs) (RetInts (withoutP ds cs gi)) := by
  dsimp only [ClaimR, RetInts]
  k_fill
  intro dp un cn cs' a ccd cl outer A₀ base h₀ L m news s Q B F X N0 T hk hroom hun hpre hret
  k_dflt (refine' enterR [(Str.ofString "gone", .int gi t1), (Str.ofString "run", .ref r), (Str.ofString "row", .ref l)] B F X N0 T hk (by omega) ?k1 ?k2 ?k3 ?k4 ?k5 ?k6 ?k7 ?k8 ?_; (case k1 => k_is); (case k2 => k_is); (case k3 => exact BindsTo.of_eq rfl); (case k4 => exact locs rfl); (case k5 => exact rfl); (case k6 => exact rfl); (case k7 => exact rfl); (case k8 => decide))
  intro g L' h₁ tk FG F' N' hlt B' X' T'
  have hnl : ∀ p ∈ news, p.1 < h₁.objs.size := fun p hp => Heap.lt_size (N' p hp).1
  obtain ⟨hp1, hp2, hp3⟩ := hpre
  have hvl : vs.length = ds.length := hi.length
  refine rExecs_any ?_
  k_with_none
  k_steps
  rename Addr => ra
  rename List Value => ws
  rename IntsAre _ (List.take _ ds) => hws
  rename ∀ p ∈ news, p.1 < _ => hra
  dsimp only
  refine rExecs_cons (rFor ?_)
  k_with "call type:range" => refine Stop.mk ?_
  k_steps
  refine Stop.out ?_
  rename News g L' _ _ => Nx
  rename Fr g L' _ _ => Fx
  refine range2_rows Fx Nx fun h2 tk2 u1 u2 u3 hr F2 N2 _ => ?_
  clear Fx Nx
  obtain ⟨hsm, hrs⟩ := small_range (a := (gi : Int) + 1) (b := ds.length) (by omega) (by omega) (by omega)
  have hn9 : ((ds.length : Int) - (gi + 1)).toNat = ds.length - (gi + 1) := by omega
  rw [hn9] at hrs
  have hwl : ws.length ≤ 15 := by rw [hws.length]; omega
  refine forRange (σ := List Value × Nat) (h₀ := g) rfl hr hsm hrs hra (fun c => listOf c.1.toArray c.2) (fun c => [(Str.ofString "rest", .ref ra), (Str.ofString "gone", .int gi t1), (Str.ofString "run", .ref r), (Str.ofString "row", .ref l)])
    (fun i c => IntsAre c.1 (ds.take gi ++ (List.range i).map fun j => numb ds cs gi (gi + 1 + j))) ⟨ws, 0⟩ F2 N2 (by kst_all) (by simpa using hws) ?_ ?_
  · intro c i t u h tk own hin hP hne F1 N1
    obtain ⟨c, nc⟩ := c
    clear F2 N2
    dsimp only at F1 N1 hP ⊢
    have hcl : c.length ≤ 100 := by
      rw [hP.length]; simp only [List.length_append, List.length_take, List.length_map, List.length_range]; omega
    k_steps
    refine wpR_any ?_
    k_with "call builtin:list.append" => refine Stop.mk ?_
    k_steps
    all_goals (
      refine Stop.out ?_
      rename News g L' _ _ => Nx
      rename Fr g L' _ _ => Fx
      refine app_list Fx Nx hne (by omega) fun h3 c3 hc3 F3 N3 => ?_
      clear Fx Nx
      k_steps
      dsimp only [FPost]
      refine f_end ⟨c3, nc + 1⟩ F3 N3 ?_ (fun p hp => .tail _ (List.mem_append_right _ hp)) (by kst_all) ?_
      · intro p hp
        rcases List.mem_cons.mp hp with rfl | hp
        · exact .head _
        · exact .tail _ (List.mem_append_left _ hp)
      · dsimp only
        rw [hc3, List.range_succ, List.map_append, ← List.append_assoc]
        refine hP.append ?_
        simp only [List.map_cons, List.map_nil]
        refine int_one _ ?_
        have e1 : ((gi : Int) + 1 + (i : Int)).toNat = gi + 1 + i := by omega
        have e2 : ((gi : Int) + 1 + (i : Int) - 1).toNat = gi + 1 + i - 1 := by omega
        have e3 : ((gi : Int)).toNat = gi := by omega
        simp only [e1, e2, e3] at *
        unfold numb
        first | rw [if_pos (by assumption)] | rw [if_neg (by assumption)]
        first | rw [if_pos (by assumption)] | rw [if_neg (by assumption)]
        first | rw [if_pos (by omega)] | rw [if_neg (by omega)]
        first | done | (clear hret hroom hun; omega))
  · intro c u h tk hP F1 N1
    obtain ⟨c, nc⟩ := c
    clear F2 N2
    dsimp only at F1 N1 hP ⊢
    refine wpR_any ?_
    k_steps
    exact hret _ _ _ _ _ hP (by k_asm) (by k_asm)
end Mine
end

section
open PySem PySem.W PyProof.Rows
set_option maxRecDepth 100000
set_option maxHeartbeats 1000000
set_option linter.unusedVariables false
set_option linter.unusedSimpArgs false
namespace Mine

/-- the sort's questions, answered by a plain test -/
def runP {α : Type} (lt : Nat → Nat → Bool) : KasT α → α
  | .ret a => a
  | .ask i j k => runP lt (k (lt i j))
theorem runP_bind {α β : Type} {lt : Nat → Nat → Bool} {f : α → KasT β} : ∀ t : KasT α, runP lt (t.bind f) = runP lt (f (runP lt t))
  | .ret _ => rfl
  | .ask i j k => runP_bind (k (lt i j))
theorem runP_ite {α : Type} {lt : Nat → Nat → Bool} {b : Bool} {x y : KasT α} : runP lt (if b = true then x else y) = if b = true then runP lt x else runP lt y := by cases b <;> rfl
/-- a comparison that answers as the test does, whatever else it does within an invariant -/
theorem kasWp_runP {α : Type} {cmp : Nat → Nat → (Bool → Shared → Prop) → Shared → Prop} {lt : Nat → Nat → Bool} {n : Nat} {Q : α → Shared → Prop} (I : Shared → Prop)
    (hc : ∀ i j C s, I s → (∀ s', I s' → C (lt i j) s') → cmp i j C s) : ∀ (t : KasT α) (s : Shared), I s → (∀ s', I s' → Q (runP lt t) s') → t.kasWp cmp Q s
  | .ret a, s, hi, h => h s hi
  | .ask i j k, s, hi, h => hc i j _ s hi fun s' hi' => kasWp_runP (n := n) I hc (k (lt i j)) s' hi' h

section
variable (key : Nat → Int)
abbrev ltK (i j : Nat) : Bool := decide (key i < key j)
def kk (p : Array Nat) (i : Nat) : Int := key (p.getD i 0)
theorem kk_congr {p q : Array Nat} {i j : Nat} (h : p[i]? = q[j]?) : kk key p i = kk key q j := by
  unfold kk
  rw [Array.getD_eq_getD_getElem?, Array.getD_eq_getD_getElem?, h]
def Up (p : Array Nat) (k : Nat) : Prop := ∀ i j, i < j → j < k → kk key p i < kk key p j
def Dn (p : Array Nat) (k : Nat) : Prop := ∀ i j, i < j → j < k → kk key p j < kk key p i
theorem Up.snoc {p : Array Nat} {k : Nat} (h : Up key p k) (hk : k = 0 ∨ kk key p (k - 1) < kk key p k) : Up key p (k + 1) := by
  intro i j hij hj
  by_cases h1 : j < k
  · exact h i j hij h1
  · have : j = k := by omega
    subst this
    rcases hk with hk | hk
    · omega
    · by_cases h2 : i = j - 1
      · rw [h2]; exact hk
      · have := h i (j - 1) (by omega) (by omega)
        omega
theorem Dn.snoc {p : Array Nat} {k : Nat} (h : Dn key p k) (hk : k = 0 ∨ kk key p k < kk key p (k - 1)) : Dn key p (k + 1) := by
  intro i j hij hj
  by_cases h1 : j < k
  · exact h i j hij h1
  · have : j = k := by omega
    subst this
    rcases hk with hk | hk
    · omega
    · by_cases h2 : i = j - 1
      · rw [h2]; exact hk
      · have := h i (j - 1) (by omega) (by omega)
        omega
/-- all keys differ -/
def Ne (p : Array Nat) : Prop := ∀ i j, i < j → j < p.size → kk key p i ≠ kk key p j
theorem asc_ok {p : Array Nat} : ∀ (f n : Nat), 1 ≤ n → n + f ≤ p.size → Ne key p → Up key p n →
    n ≤ runP (ltK key) (kas_asc p f n) ∧ runP (ltK key) (kas_asc p f n) ≤ n + f ∧ Up key p (runP (ltK key) (kas_asc p f n)) ∧ (runP (ltK key) (kas_asc p f n) = n + f ∨ kk key p (runP (ltK key) (kas_asc p f n)) < kk key p (runP (ltK key) (kas_asc p f n) - 1))
  | 0, n, h1, h2, h3, h4 => ⟨Nat.le_refl _, Nat.le_refl _, h4, .inl rfl⟩
  | f + 1, n, h1, h2, h3, h4 => by
    simp only [kas_asc, runP]
    by_cases hc : kk key p n < kk key p (n - 1)
    · have e : ltK key (p.getD n 0) (p.getD (n - 1) 0) = true := decide_eq_true hc
      rw [e, if_pos rfl]
      simp only [runP]
      exact ⟨Nat.le_refl _, by omega, h4, .inr hc⟩
    · have e : ltK key (p.getD n 0) (p.getD (n - 1) 0) = false := decide_eq_false hc
      rw [e, if_neg (by simp)]
      have hne := h3 (n - 1) n (by omega) (by omega)
      have ih := asc_ok f (n + 1) (by omega) (by omega) h3 (h4.snoc key (.inr (by omega)))
      refine ⟨by omega, by omega, ih.2.2.1, ?_⟩
      rcases ih.2.2.2 with h | h
      · exact .inl (by omega)
      · exact .inr h
theorem desc_ok {p : Array Nat} : ∀ (f n : Nat), 1 ≤ n → n + f ≤ p.size → Ne key p → Dn key p n →
    ∃ m, runP (ltK key) (kas_desc f p n 0) = (p, m, 0) ∧ n ≤ m ∧ m ≤ n + f ∧ Dn key p m
  | 0, n, h1, h2, h3, h4 => ⟨n, rfl, Nat.le_refl _, Nat.le_refl _, h4⟩
  | f + 1, n, h1, h2, h3, h4 => by
    simp only [kas_desc, runP]
    by_cases hc : kk key p n < kk key p (n - 1)
    · have e : ltK key (p.getD n 0) (p.getD (n - 1) 0) = true := decide_eq_true hc
      rw [e, if_pos rfl, if_neg (by omega)]
      obtain ⟨m, a, b, c, d⟩ := desc_ok f (n + 1) (by omega) (by omega) h3 (h4.snoc key (.inr hc))
      exact ⟨m, a, by omega, by omega, d⟩
    · have hne := h3 (n - 1) n (by omega) (by omega)
      have e : ltK key (p.getD n 0) (p.getD (n - 1) 0) = false := decide_eq_false hc
      rw [e, if_neg (by simp)]
      have e2 : ltK key (p.getD (n - 1) 0) (p.getD n 0) = true := decide_eq_true (show kk key p (n - 1) < kk key p n by omega)
      simp only [runP]
      rw [e2, if_pos rfl]
      exact ⟨n, rfl, Nat.le_refl _, by omega, h4⟩
theorem rev_kk {p : Array Nat} {n : Nat} (hn : n ≤ p.size) (k : Nat) : kk key (kas_rev p 0 n) k = if k < n then kk key p (n - 1 - k) else kk key p k := by
  have h := getElem?_mirror_all (xs := p) (i := 0) (j := n) hn k
  split
  · refine kk_congr key ?_
    show (mirror p 0 n ((n - 0) / 2))[k]? = _
    rw [h, if_pos (by omega)]
    congr 1; omega
  · refine kk_congr key ?_
    show (mirror p 0 n ((n - 0) / 2))[k]? = _
    rw [h, if_neg (by omega)]
theorem Ne.perm {p q : Array Nat} (hn : ∀ i ∈ p.toList, ∀ j ∈ p.toList, key i = key j → i = j) (hd : p.toList.Nodup) (hq : q.Perm p) : Ne key q := by
  have hqp : q.toList.Perm p.toList := Array.perm_iff_toList_perm.mp hq
  have hqd : q.toList.Nodup := hqp.nodup_iff.mpr hd
  intro i j hij hj e
  have hi : i < q.size := by omega
  have ei : q.getD i 0 = q.toList[i]'(by simpa using hi) := by simp [Array.getD, hi]
  have ej : q.getD j 0 = q.toList[j]'(by simpa using hj) := by simp [Array.getD, hj]
  unfold kk at e
  rw [ei, ej] at e
  have := hn _ (hqp.mem_iff.mp (List.getElem_mem _)) _ (hqp.mem_iff.mp (List.getElem_mem _)) e
  exact List.pairwise_iff_getElem.mp hqd i j _ _ hij this
theorem tail3_ok {p : Array Nat} {n nrem : Nat} (h1 : 1 ≤ n) (hn : n ≤ nrem) (hz : nrem = p.size) (hne : ∀ q : Array Nat, q.Perm p → Ne key q) (hd : Dn key p n) :
    ∃ m q, runP (ltK key) (kas_tail3 n nrem p) = (m, q) ∧ q.Perm p ∧ 1 ≤ m ∧ m ≤ nrem ∧ Up key q m := by
  unfold kas_tail3
  rw [runP_bind]
  have hp : (kas_rev p 0 n).Perm p := mirror_perm _ _ _ _
  have hs : (kas_rev p 0 n).size = p.size := mirror_size _ _ _ _
  have hu : Up key (kas_rev p 0 n) n := by
    intro i j hij hj
    rw [rev_kk key (by omega), rev_kk key (by omega), if_pos (by omega), if_pos hj]
    exact hd _ _ (by omega) (by omega)
  have := asc_ok key (nrem - n) n h1 (by omega) (hne _ hp) hu
  exact ⟨_, _, rfl, hp, by omega, by omega, this.2.2.1⟩
theorem count_ok {p : Array Nat} {nrem : Nat} (h1 : 1 ≤ nrem) (hz : nrem = p.size) (hne : ∀ q : Array Nat, q.Perm p → Ne key q) :
    ∃ m q, runP (ltK key) (kas_count nrem p) = (m, q) ∧ q.Perm p ∧ 1 ≤ m ∧ m ≤ nrem ∧ Up key q m := by
  unfold kas_count
  rw [runP_bind]
  have hN := hne p (Array.Perm.refl _)
  obtain ⟨a1, a2, a3, a4⟩ := asc_ok key (nrem - 1) 1 (Nat.le_refl _) (by omega) hN (fun i j hij hj => by omega)
  generalize runP (ltK key) (kas_asc p (nrem - 1) 1) = n at *
  have e1 : 1 + (nrem - 1) = nrem := by omega
  rw [e1] at a2 a4
  by_cases hn : n = nrem
  · have e : (n == nrem) = true := by simp [hn]
    rw [e, if_pos rfl]
    exact ⟨_, _, rfl, Array.Perm.refl _, a1, a2, a3⟩
  · have e : (n == nrem) = false := by simp [hn]
    rw [e, if_neg (by simp)]
    by_cases hn1 : n > 1
    · rw [if_pos hn1]
      simp only [runP]
      have e2 : ltK key (p.getD 0 0) (p.getD (n - 1) 0) = true := decide_eq_true (show kk key p 0 < kk key p (n - 1) from a3 _ _ (by omega) (by omega))
      rw [e2, if_pos rfl]
      exact ⟨_, _, rfl, Array.Perm.refl _, a1, a2, a3⟩
    · rw [if_neg hn1]
      obtain rfl : n = 1 := by omega
      have hlt : kk key p 1 < kk key p 0 := by rcases a4 with h | h; exact absurd h hn; exact h
      unfold kas_descPart
      rw [runP_bind]
      obtain ⟨m, b1, b2, b3, b4⟩ := desc_ok key (nrem - (1 + 1)) (1 + 1) (by omega) (by omega) hN (Dn.snoc key (k := 1) (fun i j hij hj => by omega) (.inr hlt))
      rw [b1]
      dsimp only
      rw [if_neg (by omega)]
      exact tail3_ok key (by omega) (by omega) hz hne b4
theorem place_ok {p : Array Nat} {k : Nat} (hk : k < p.size) (hne : Ne key p) (hu : Up key p k) : ∀ (f l r : Nat), r - l ≤ f → l ≤ r → r ≤ k → (∀ i, i < l → kk key p i < kk key p k) → (∀ i, r ≤ i → i < k → kk key p k < kk key p i) →
    runP (ltK key) (kas_place p k f l r) ≤ k ∧ (∀ i, i < runP (ltK key) (kas_place p k f l r) → kk key p i < kk key p k) ∧ (∀ i, runP (ltK key) (kas_place p k f l r) ≤ i → i < k → kk key p k < kk key p i)
  | 0, l, r, h1, h2, h3, h4, h5 => by
    have : l = r := by omega
    subst this
    exact ⟨h3, h4, h5⟩
  | f + 1, l, r, h1, h2, h3, h4, h5 => by
    simp only [kas_place]
    by_cases hlr : l ≥ r
    · rw [if_pos hlr]
      have : l = r := by omega
      subst this
      exact ⟨h3, h4, h5⟩
    · rw [if_neg hlr]
      simp only [runP]
      by_cases hc : kk key p k < kk key p ((l + r) / 2)
      · have e : ltK key (p.getD k 0) (p.getD ((l + r) / 2) 0) = true := decide_eq_true hc
        rw [e, if_pos rfl]
        refine place_ok hk hne hu f l ((l + r) / 2) (by omega) (by omega) (by omega) h4 fun i hi hik => ?_
        by_cases h : i = (l + r) / 2
        · rw [h]; exact hc
        · have := hu ((l + r) / 2) i (by omega) hik
          omega
      · have e : ltK key (p.getD k 0) (p.getD ((l + r) / 2) 0) = false := decide_eq_false hc
        rw [e, if_neg (by simp)]
        have hnn := hne ((l + r) / 2) k (by omega) hk
        refine place_ok hk hne hu f ((l + r) / 2 + 1) r (by omega) (by omega) h3 (fun i hi => ?_) h5
        by_cases h : i = (l + r) / 2
        · rw [h]; omega
        · have := hu i ((l + r) / 2) (by omega) (by omega)
          omega
theorem bub_kk {p : Array Nat} {k l : Nat} (hk : k < p.size) (hl : l ≤ k) (i : Nat) : kk key (bubble p k (k - l)) i = if i = l then kk key p k else if l < i ∧ i ≤ k then kk key p (i - 1) else kk key p i := by
  have h := getElem?_bubble hk (k - l) (by omega) i
  have e : k - (k - l) = l := by omega
  rw [e] at h
  split
  · refine kk_congr key ?_
    rw [h, if_pos (by assumption)]
  · split
    · refine kk_congr key ?_
      rw [h, if_neg (by assumption), if_pos (by assumption)]
    · refine kk_congr key ?_
      rw [h, if_neg (by assumption), if_neg (by assumption)]
theorem bin_ok : ∀ (f : Nat) (p : Array Nat) (k : Nat), k + f = p.size → (∀ q : Array Nat, q.Perm p → Ne key q) → Up key p k →
    (runP (ltK key) (kas_bin f p k)).Perm p ∧ Up key (runP (ltK key) (kas_bin f p k)) p.size
  | 0, p, k, h1, h2, h3 => ⟨Array.Perm.refl _, by rw [← h1]; exact h3⟩
  | f + 1, p, k, h1, h2, h3 => by
    simp only [kas_bin]
    rw [runP_bind]
    have hN := h2 p (Array.Perm.refl _)
    obtain ⟨a1, a2, a3⟩ := place_ok key (p := p) (k := k) (by omega) hN h3 k 0 k (by omega) (by omega) (Nat.le_refl _) (fun i hi => by omega) (fun i hi hi' => by omega)
    generalize runP (ltK key) (kas_place p k k 0 k) = l at *
    have hb : (bubble p k (k - l)).Perm p := bubble_perm _ _ _
    have hs : (bubble p k (k - l)).size = p.size := bubble_size _ _ _
    have ih := bin_ok f (bubble p k (k - l)) (k + 1) (by omega) (fun q hq => h2 q (hq.trans hb)) ?_
    · rw [hs] at ih
      exact ⟨ih.1.trans hb, ih.2⟩
    · intro i j hij hj
      rw [bub_kk key (by omega) a1, bub_kk key (by omega) a1]
      by_cases e1 : i = l
      · rw [if_pos e1, if_neg (by omega), if_pos (by omega)]
        exact a3 _ (by omega) (by omega)
      · rw [if_neg e1]
        by_cases e2 : l < i ∧ i ≤ k
        · rw [if_pos e2, if_neg (by omega), if_pos (by omega)]
          exact h3 _ _ (by omega) (by omega)
        · rw [if_neg e2]
          by_cases e3 : j = l
          · rw [if_pos e3]; exact a2 _ (by omega)
          · rw [if_neg e3]
            by_cases e4 : l < j ∧ j ≤ k
            · rw [if_pos e4]
              by_cases e5 : i = j - 1
              · omega
              · exact h3 _ _ (by omega) (by omega)
            · rw [if_neg e4]
              exact h3 _ _ hij (by omega)
theorem sort_ok {n : Nat} (h1 : 1 ≤ n) (hne : ∀ i j, i < n → j < n → key i = key j → i = j) :
    (runP (ltK key) (kas_sort n)).toList.Perm (List.range n) ∧ (runP (ltK key) (kas_sort n)).toList.Pairwise (fun i j => key i < key j) := by
  have hN : ∀ q : Array Nat, q.Perm (List.toArray (List.range n)) → Ne key q := fun q hq => by
    refine Ne.perm key (p := List.toArray (List.range n)) (fun i hi j hj => ?_) (by simpa using List.nodup_range) hq
    exact hne i j (by simpa using hi) (by simpa using hj)
  have hz : n = (List.toArray (List.range n)).size := by simp
  have main : (runP (ltK key) (kas_sort n)).Perm (List.toArray (List.range n)) ∧ Up key (runP (ltK key) (kas_sort n)) n := by
    unfold kas_sort
    rw [runP_bind]
    obtain ⟨m, q, e, hp, a1, a2, a3⟩ := count_ok key h1 hz hN
    rw [e]
    dsimp only
    have hq : q.size = n := by rw [hp.size_eq, ← hz]
    split
    · have em : max m 1 = m := by omega
      rw [em]
      have := bin_ok key (n - m) q m (by omega) (fun r hr => hN r (hr.trans hp)) a3
      rw [hq] at this
      exact ⟨this.1.trans hp, this.2⟩
    · have em : m = n := by omega
      subst em
      exact ⟨hp, a3⟩
  obtain ⟨hp, hu⟩ := main
  generalize runP (ltK key) (kas_sort n) = q at *
  refine ⟨by simpa using Array.perm_iff_toList_perm.mp hp, ?_⟩
  have hq : q.size = n := by rw [hp.size_eq, ← hz]
  rw [List.pairwise_iff_getElem]
  intro i j hi hj hij
  have hi' : i < q.size := by simpa using hi
  have hj' : j < q.size := by simpa using hj
  have := hu i j hij (by omega)
  unfold kk at this
  have ei : q.getD i 0 = q.toList[i] := by simp [Array.getD, hi']
  have ej : q.getD j 0 = q.toList[j] := by simp [Array.getD, hj']
  rw [ei, ej] at this
  exact this
end
end Mine
end

section
open PySem PySem.W PyProof.Rows
set_option maxRecDepth 100000
set_option maxHeartbeats 1000000
set_option linter.unusedVariables false
set_option linter.unusedSimpArgs false
namespace Mine

/-- every question of the tree lies below n -/
def InR {α : Type} (n : Nat) (P : α → Prop) : KasT α → Prop
  | .ret a => P a
  | .ask i j k => i < n ∧ j < n ∧ ∀ b, InR n P (k b)
theorem InR.bind {α β : Type} {n : Nat} {P : α → Prop} {R : β → Prop} {f : α → KasT β} (hf : ∀ a, P a → InR n R (f a)) : ∀ t : KasT α, InR n P t → InR n R (t.bind f)
  | .ret a, h => hf a h
  | .ask i j k, h => ⟨h.1, h.2.1, fun b => InR.bind hf (k b) (h.2.2 b)⟩
def Bd (n : Nat) (p : Array Nat) : Prop := ∀ i, p.getD i 0 < n
theorem Bd.perm {n : Nat} {p q : Array Nat} (h : q.Perm p) (hb : Bd n p) : Bd n q := by
  intro i
  by_cases hi : i < q.size
  · have e : q.getD i 0 = q.toList[i]'(by simpa using hi) := by simp [Array.getD, hi]
    rw [e]
    have hm := (Array.perm_iff_toList_perm.mp h).mem_iff.mp (List.getElem_mem (l := q.toList) (n := i) (by simpa using hi))
    obtain ⟨j, hj, e2⟩ := List.mem_iff_getElem.mp hm
    have hj' : j < p.size := by simpa using hj
    have e3 : p.getD j 0 = p.toList[j] := by simp [Array.getD, hj']
    rw [← e2, ← e3]
    exact hb j
  · have e : q.getD i 0 = 0 := by simp [Array.getD, hi]
    rw [e]
    have := hb 0
    omega
theorem inr_asc {n : Nat} {p : Array Nat} (hb : Bd n p) : ∀ (f k : Nat), InR n (fun _ => True) (kas_asc p f k)
  | 0, _ => trivial
  | f + 1, k => by
    simp only [kas_asc, InR]
    refine ⟨hb _, hb _, fun b => ?_⟩
    cases b
    · exact inr_asc hb f (k + 1)
    · trivial
theorem inr_desc {n : Nat} : ∀ (f : Nat) (p : Array Nat) (k q : Nat), Bd n p → InR n (fun r => Bd n r.1) (kas_desc f p k q)
  | 0, _, _, _, hb => hb
  | f + 1, p, k, q, hb => by
    simp only [kas_desc, InR]
    refine ⟨hb _, hb _, fun b => ?_⟩
    cases b
    · simp only [Bool.false_eq_true, if_false, InR]
      refine ⟨hb _, hb _, fun b => ?_⟩
      cases b
      · exact inr_desc f p (k + 1) (q + 1) hb
      · exact hb
    · simp only [if_true]
      split
      · exact inr_desc f _ _ _ (hb.perm (mirror_perm _ _ _ _))
      · exact inr_desc f _ _ _ hb
theorem inr_tail3 {n k nrem : Nat} {p : Array Nat} (hb : Bd n p) : InR n (fun r => Bd n r.2) (kas_tail3 k nrem p) :=
  InR.bind (R := fun r => Bd n r.2) (f := fun m => .ret (m, kas_rev p 0 k)) (fun _ _ => hb.perm (mirror_perm _ _ _ _)) _ (inr_asc (hb.perm (mirror_perm _ _ _ _)) _ _)
theorem inr_descPart {n k nrem : Nat} {p : Array Nat} (hb : Bd n p) : InR n (fun r => Bd n r.2) (kas_descPart k nrem p) := by
  refine InR.bind (fun r hr => ?_) _ (inr_desc _ _ _ _ hb)
  split
  · exact inr_tail3 (hr.perm (mirror_perm _ _ _ _))
  · exact inr_tail3 hr
theorem inr_count {n nrem : Nat} {p : Array Nat} (hb : Bd n p) : InR n (fun r => Bd n r.2) (kas_count nrem p) := by
  refine InR.bind (fun r _ => ?_) _ (inr_asc hb _ _)
  split
  · exact hb
  · split
    · refine ⟨hb _, hb _, fun b => ?_⟩
      cases b
      · exact inr_descPart (hb.perm (mirror_perm _ _ _ _))
      · exact hb
    · exact inr_descPart hb
theorem inr_place {n k : Nat} {p : Array Nat} (hb : Bd n p) : ∀ (f l r : Nat), InR n (fun _ => True) (kas_place p k f l r)
  | 0, _, _ => trivial
  | f + 1, l, r => by
    simp only [kas_place]
    split
    · trivial
    · refine ⟨hb _, hb _, fun b => ?_⟩
      cases b
      · exact inr_place hb f _ _
      · exact inr_place hb f _ _
theorem inr_bin {n : Nat} : ∀ (f : Nat) (p : Array Nat) (k : Nat), Bd n p → InR n (fun _ => True) (kas_bin f p k)
  | 0, _, _, _ => trivial
  | f + 1, p, k, hb => InR.bind (fun l _ => inr_bin f _ _ (hb.perm (bubble_perm _ _ _))) _ (inr_place hb _ _ _)
theorem inr_sort {n : Nat} (h1 : 1 ≤ n) : InR n (fun _ => True) (kas_sort n) := by
  have hb : Bd n (List.toArray (List.range n)) := by
    intro i
    by_cases hi : i < n
    · have e : (List.toArray (List.range n)).getD i 0 = i := by simp [Array.getD, hi]
      rw [e]; exact hi
    · have e : (List.toArray (List.range n)).getD i 0 = 0 := by simp [Array.getD, hi]
      rw [e]; exact h1
  refine InR.bind (fun r hr => ?_) _ (inr_count hb)
  split
  · exact inr_bin _ _ _ hr
  · trivial
theorem kasWp_in {α : Type} {cmp : Nat → Nat → (Bool → Shared → Prop) → Shared → Prop} {lt : Nat → Nat → Bool} {n : Nat} {R : α → Prop} {Q : α → Shared → Prop} (I : Shared → Prop)
    (hc : ∀ i j C s, i < n → j < n → I s → (∀ s', I s' → C (lt i j) s') → cmp i j C s) : ∀ (t : KasT α) (s : Shared), InR n R t → I s → (∀ s', I s' → Q (runP lt t) s') → t.kasWp cmp Q s
  | .ret a, s, _, hi, h => h s hi
  | .ask i j k, s, hr, hi, h => hc i j _ s hr.1 hr.2.1 hi fun s' hi' => kasWp_in I hc (k (lt i j)) s' (hr.2.2 _) hi' h

/-- by code point, then by place -/
def pk (c : Int × Int) : Int := c.1 * 1000 + c.2
def Sorted (cs : List (Int × Int)) : Prop := cs.Pairwise fun a b => pk a < pk b
theorem Pairs.perm {ex : List (Addr × Obj)} {vs : List Value} {cs : List (Int × Int)} (h : Pairs ex vs cs) (l : List Nat) (hl : ∀ i ∈ l, i < cs.length) :
    Pairs ex (l.map fun i => vs.getD i Value.none) (l.map fun i => cs.getD i (0, 0)) := by
  refine ⟨by simp, fun i hi => ?_⟩
  rw [List.length_map] at hi
  have hm := hl _ (List.getElem_mem hi)
  obtain ⟨T, t1, t2, e, m⟩ := h.2 _ hm
  refine ⟨T, t1, t2, ?_, ?_⟩
  · rw [List.getElem?_map, List.getElem?_eq_getElem hi]
    simp only [Option.map_some, List.getD_eq_getElem?_getD, e, Option.getD_some]
  · have e3 : (l.map fun i => cs.getD i (0, 0)).getD i (0, 0) = cs.getD l[i] (0, 0) := by
      simp [List.getD_eq_getElem?_getD, hi]
    rw [e3]; exact m
theorem map_getD_range {α : Type} (cs : List α) (d : α) : (List.range cs.length).map (fun i => cs.getD i d) = cs := by
  apply List.ext_getElem
  · simp
  · intro i h1 h2
    simp [List.getD_eq_getElem?_getD, h2]

section
variable {prog : Program} {w : World} {A : Around} {E : Value → Shared → Prop} {s : Shared} {h₀ : Heap} {L : Addr} {m : Str → Option Value} {news : List (Addr × Obj)} {vs : List Value} {cs : List (Int × Int)}
theorem lex_ask {x y : Addr} {a b : Int × Int} {t1 t2 t3 t4 : Tok} {Q : Bool → Shared → Prop} (hx : s.heap.get? x = some (tupObj #[.int a.1 t1, .int a.2 t2])) (hy : s.heap.get? y = some (tupObj #[.int b.1 t3, .int b.2 t4]))
    (ha : 0 ≤ a.2 ∧ a.2 < 1000) (hb : 0 ≤ b.2 ∧ b.2 < 1000) (h : Q (decide (pk a < pk b)) s) : wpAny (model prog w) A (keyLt' (tuples' true) (.ref x) (.ref y)) Q E s := by
  refine kat_lt hx rfl hy rfl ?_
  show KatLex prog w A true _ Q [(.int a.1 t1, .int b.1 t3), (.int a.2 t2, .int b.2 t4)] 0 s
  unfold pk at h
  refine kat_cons (wpAny_eqBool_int (kat_go (fun e => ?_) (fun e => ?_)))
  · have e1 : a.1 = b.1 := by simpa using e
    rw [e1] at h
    refine kat_yes (kat_cons (wpAny_eqBool_int (kat_go (fun e => ?_) (fun e => ?_))))
    · have e2 : a.2 = b.2 := by simpa using e
      refine kat_yes (kat_nil ?_)
      have e3 : decide (b.1 * 1000 + a.2 < b.1 * 1000 + b.2) = false := decide_eq_false (by omega)
      rw [e3] at h
      exact h
    · refine kat_no ?_
      show wpAny _ _ (oneLt' false _ _) _ _ _
      refine kat_one _ _ (wpAny_lt_int ?_)
      have e3 : decide (b.1 * 1000 + a.2 < b.1 * 1000 + b.2) = decide (a.2 < b.2) := by
        by_cases h9 : a.2 < b.2
        · rw [decide_eq_true h9]; exact decide_eq_true (by omega)
        · rw [decide_eq_false h9]; exact decide_eq_false (by omega)
      rw [e3] at h
      exact h
  · refine kat_no ?_
    show wpAny _ _ (oneLt' true _ _) _ _ _
    refine oneLt_int ?_
    have e1 : ¬ a.1 = b.1 := by simpa using e
    have e3 : decide (a.1 * 1000 + a.2 < b.1 * 1000 + b.2) = decide (a.1 < b.1) := by
      by_cases h9 : a.1 < b.1
      · rw [decide_eq_true h9]; exact decide_eq_true (by omega)
      · rw [decide_eq_false h9]; exact decide_eq_false (by omega)
    rw [e3] at h
    exact h

theorem katTups_pairs {h : Heap} {ex : List (Addr × Obj)} (hN : ∀ p ∈ ex, h.get? p.1 = some p.2) : ∀ (vs : List Value) (cs : List (Int × Int)), Pairs ex vs cs → ∃ fs, KatTups h vs fs ∧ fs.length = vs.length ∧ ∀ v ∈ fs, ∃ n t, v = .int n t
  | [], _, _ => ⟨[], .nil, rfl, fun v hv => by cases hv⟩
  | v :: vs, [], hp => by have := hp.1; simp at this
  | v :: vs, c :: cs, hp => by
    obtain ⟨T, t1, t2, e, m⟩ := hp.2 0 (by simp)
    have ev : v = .ref T := by simpa using e
    have hp' : Pairs ex vs cs := by
      refine ⟨by have := hp.1; simpa using this, fun i hi => ?_⟩
      obtain ⟨T, t1, t2, e, m⟩ := hp.2 (i + 1) (by simp; omega)
      exact ⟨T, t1, t2, by simpa using e, by simpa using m⟩
    obtain ⟨fs, k1, k2, k3⟩ := katTups_pairs hN vs cs hp'
    refine ⟨.int c.1 t1 :: fs, ?_, by simp [k2], ?_⟩
    · rw [ev]
      have m' : (T, tupObj #[.int c.1 t1, .int c.2 t2]) ∈ ex := by simpa using m
      exact .cons (hN _ m') rfl rfl rfl k1
    · intro v hv
      rcases List.mem_cons.mp hv with rfl | hv
      · exact ⟨_, _, rfl⟩
      · exact k3 v hv
theorem sorted_one {l : Addr} {v : Value} {Q : Value → Shared → Prop} (F : Fr h₀ L s.heap m) (N : News h₀ L s.heap news) (hl : s.heap.IsList l #[v])
    (h : ∀ D c h', Fr h₀ L h' m → News h₀ L h' ((D, listOf #[v] c) :: news) → (∀ q ∈ news, q.1 < D) → Q (.ref D) { s with heap := h' }) :
    wpAny (model prog w) A (call (.builtin "sorted") [.ref l]) Q E s := by
  refine Calls.call_function_entry kind_sorted plain_sorted entry_sorted (args_sorted1 _) ?_
  unfold Builtin.«sorted»
  refine wpAny_bind (m := checkCount "sorted" 1 1 _) (wpAny_pure ?_)
  refine wpAny_bind (collect_list (vs := [v]) hl ?_ (by rw [sizeLine_eq]; simp))
  refine wpAny_bind (wpAny_newList ?_ (by rw [sizeLine_eq]; simp))
  generalize hH : (s.heap.push (seqObj "list" #[] 0)).update s.heap.objs.size (Obj.mapSeq (· ++ [v].toArray)) = H
  have hsz : H.objs.size = s.heap.objs.size + 1 := by
    rw [← hH, Heap.size_update, size_push']
  have keep0 : ∀ b o, s.heap.get? b = some o → H.get? b = some o := fun b o q => by
    have hlt : b < s.heap.objs.size := Heap.lt_size q
    rw [← hH, Heap.get?_update_ne _ _ _ _ (Nat.ne_of_lt hlt), Heap.get?_push_ne _ _ _ (Nat.ne_of_lt hlt)]
    exact q
  have F1 : Fr h₀ L H m := F.kept keep0
  have N1 : News h₀ L H news := N.grown keep0
  have hlow : ∀ q ∈ news, q.1 < H.objs.size := fun q hq => by rw [hsz]; exact Nat.lt_succ_of_lt (Heap.lt_size (N q hq).1)
  have hLlt : L < H.objs.size := F1.ns.lt
  show wpAny _ _ _ _ _ { s with heap := H.push (seqObj "list" #[v] 0) }
  generalize hD : H.objs.size = D at *
  have F2 : Fr h₀ L (H.push (seqObj "list" #[v] 0)) m := F1.push _
  have N2 : News h₀ L (H.push (seqObj "list" #[v] 0)) ((D, seqObj "list" #[v] 0) :: news) := by rw [← hD]; exact News.push F1 N1 _
  refine wpAny_bind (wpAny_holding (wpAny_call_entry slot_list_sort ⟨_, (N2 _ (.head _)).1, rfl⟩ entry_list_sort ?body (args_list_sort _)))
  case body =>
    rw [list_sort_plain]
    have hne : ∀ p ∈ news, p.1 ≠ D := fun p hp => Nat.ne_of_lt (hlow p hp)
    refine wpAny_bind (listItems_at (N2 _ (.head _)).1 rfl ?_)
    refine wpAny_bind (listUpdate_at (N2 _ (.head _)).1 rfl ?_ (by rw [sizeLine_eq]; simp) (Nat.zero_le _))
    have s1 := Heap.SameBut.update (H.push (seqObj "list" #[v] 0)) D (Obj.mapSeq fun _ => (#[] : Array Value))
    obtain ⟨e1, ho1⟩ : ∃ e1, ((H.push (seqObj "list" #[v] 0)).update D (Obj.mapSeq fun _ => (#[] : Array Value))).get? D = some (seqObj "list" #[] e1) := ⟨_, get?_update_seq (N2 _ (.head _)).1 fun _ => #[]⟩
    obtain ⟨F3, N3⟩ := app_upd F2 N2 s1 ho1 hne
    generalize (H.push (seqObj "list" #[v] 0)).update D (Obj.mapSeq fun _ => (#[] : Array Value)) = H3 at *
    refine wpAny_bind (seqEpoch_at (N3 _ (.head _)).1 rfl ?_)
    refine wpAny_bind (wpAny_newTuple ?_ (by rw [sizeLine_eq]; simp))
    refine wpAny_bind (wpAny_newList ?_ (Nat.zero_le _))
    refine wpAny_holding ?_
    have F4 : Fr h₀ L ((H3.push (seqObj "tuple" #[v] 0)).push (seqObj "list" #[] 0)) m := (F3.push _).push _
    have N4 : News h₀ L ((H3.push (seqObj "tuple" #[v] 0)).push (seqObj "list" #[] 0)) ((D, seqObj "list" #[] e1) :: news) := N3.grown fun b x e => Heap.get?_push_of_some _ (Heap.get?_push_of_some _ e)
    show wpAny (model prog w) _ _ _ _ { s with heap := (H3.push (seqObj "tuple" #[v] 0)).push (seqObj "list" #[] 0) }
    dsimp only
    have hn2 : (#[v] : Array Value).size < 2 := by simp
    rw [if_pos hn2, if_pos hn2]
    refine wpAny_bind (wpAny_pure ?_)
    rw [show ∀ st : SortSt, (pure () : StateT SortSt Sem Unit).run st = pure ((), st) from fun _ => rfl]
    refine wpAny_bind (wpAny_pure ?_)
    generalize (H3.push (seqObj "tuple" #[v] 0)).push (seqObj "list" #[] 0) = H4 at *
    refine wpAny_bind (seqEpoch_at (N4 _ (.head _)).1 rfl ?_)
    have s5 := Heap.SameBut.update H4 D (Obj.mapSeq fun _ => (#[v] : Array Value))
    obtain ⟨e5, ho5⟩ : ∃ e5, (H4.update D (Obj.mapSeq fun _ => (#[v] : Array Value))).get? D = some (seqObj "list" #[v] e5) := ⟨_, get?_update_seq (N4 _ (.head _)).1 fun _ => #[v]⟩
    obtain ⟨F5, N5⟩ := app_upd F4 N4 s5 ho5 hne
    have eo : Array.map (fun x => x.snd) (arrOf (SortSt.mk' general' ((#[v] : Array Value).zip #[v]) #[] 7 none)) = #[v] := by
      show Array.map (fun x => x.snd) ((#[v] : Array Value).zip #[v]) = #[v]
      simp
    rw [eo]
    refine wpAny_bind (listUpdate_at (N4 _ (.head _)).1 rfl ?_ (Nat.zero_le _) (by rw [sizeLine_eq]; simp))
    simp only [bne_self_eq_false, Bool.false_eq_true, if_false]
    refine wpAny_pure ?_
    exact ⟨_, rfl, wpAny_pure ⟨_, rfl, h D e5 _ F5 N5 hlow⟩⟩
/-- sorted of a list of pairs of ints, all pairs different -/
theorem sorted_pairs {l : Addr} {ex : List (Addr × Obj)} {Q : Value → Shared → Prop} (F : Fr h₀ L s.heap m) (N : News h₀ L s.heap news) (hl : s.heap.IsList l vs.toArray) (hex : ∀ p ∈ ex, p ∈ news) (hp : Pairs ex vs cs)
    (h1 : 1 ≤ cs.length) (h64 : cs.length < 64) (hr : ∀ c ∈ cs, 0 ≤ c.2 ∧ c.2 < 1000) (hinj : ∀ i j, i < cs.length → j < cs.length → pk (cs.getD i (0, 0)) = pk (cs.getD j (0, 0)) → i = j)
    (h : ∀ D rs cs' c h' tk, Fr h₀ L h' m → News h₀ L h' ((D, listOf (List.toArray rs) c) :: news) → Pairs ex rs cs' → cs'.Perm cs → Sorted cs' → Q (.ref D) { s with heap := h', toks := tk }) :
    wpAny (model prog w) A (call (.builtin "sorted") [.ref l]) Q E s := by
  have hvl : vs.length = cs.length := hp.1
  rcases Nat.lt_or_ge 1 vs.length with h2 | h2
  · refine kat_sorted F N hl h2 (by omega) fun D e1 h' F' N' hD => ?_
    have hN : ∀ p ∈ ex, h'.get? p.1 = some p.2 := fun p hpe => (N' p (.tail _ (hex p hpe))).1
    obtain ⟨fs, k1, k2, k3⟩ := katTups_pairs hN vs cs hp
    refine kat_kind (T := .type "int") k1 (by omega) (fun v hv => by obtain ⟨n, t, rfl⟩ := k3 v hv; exact Looks.of_pure rfl) (by decide) ?_
    have hT : (Value.type "int" != Value.type "tuple") = true := by decide
    rw [hT]
    obtain ⟨o1, o2⟩ := sort_ok (fun i => pk (cs.getD i (0, 0))) (n := vs.length) (by omega) (by rw [hvl]; exact hinj)
    refine kasWp_in (n := vs.length) (lt := ltK fun i => pk (cs.getD i (0, 0))) (fun s' => ∃ tk, s' = { s with heap := h', toks := tk }) ?_ _ _ (inr_sort (by omega)) ⟨_, rfl⟩ ?_
    · rintro i j C s' hi hj ⟨tk, rfl⟩ hC
      obtain ⟨T1, t1, t2, x1, x2⟩ := hp.2 i (by omega)
      obtain ⟨T2, t3, t4, y1, y2⟩ := hp.2 j (by omega)
      unfold kas_ask
      have e1 : vs.getD i Value.none = .ref T1 := by rw [List.getD_eq_getElem?_getD, x1]; rfl
      have e2 : vs.getD j Value.none = .ref T2 := by rw [List.getD_eq_getElem?_getD, y1]; rfl
      rw [e1, e2]
      have hget : ∀ i, i < cs.length → cs.getD i (0, 0) ∈ cs := fun i hi => by
        rw [List.getD_eq_getElem?_getD, List.getElem?_eq_getElem hi]; exact List.getElem_mem hi
      refine lex_ask (a := cs.getD i (0, 0)) (b := cs.getD j (0, 0)) (hN _ x2) (hN _ y2) (hr _ (hget i (by omega))) (hr _ (hget j (by omega))) (hC _ ⟨tk, rfl⟩)
    · rintro s' ⟨tk, rfl⟩
      generalize runP (ltK fun i => pk (cs.getD i (0, 0))) (kas_sort vs.length) = p at *
      refine KasFin.intro F' N' (.head fun q hq => Nat.ne_of_lt (hD q hq)) fun h2 c F2 N2 => ?_
      have hpl : ∀ i ∈ p.toList, i < cs.length := fun i hi => by have := o1.mem_iff.mp hi; simp at this; omega
      refine h D _ (p.toList.map fun i => cs.getD i (0, 0)) c h2 tk F2 N2 (hp.perm _ hpl) ?_ ?_
      · have e := o1.map fun i => cs.getD i (0, 0)
        rw [hvl, map_getD_range] at e
        exact e
      · exact List.pairwise_map.mpr o2
  · obtain ⟨v, rfl⟩ : ∃ v, vs = [v] := by
      match vs, hvl, h2 with
      | [], e, _ => simp at e; omega
      | [v], _, _ => exact ⟨v, rfl⟩
      | _ :: _ :: _, _, e => simp at e
    refine sorted_one F N hl fun D c h' F' N' hD => ?_
    refine h D [v] cs c h' s.toks F' N' hp (.refl _) ?_
    match cs, hvl with
    | [c], _ => exact List.pairwise_singleton _ _
end
end Mine
end

section
open PySem PySem.W PyProof.Rows
set_option maxRecDepth 100000
set_option maxHeartbeats 1000000
set_option linter.unusedVariables false
namespace Mine
abbrev RetPairs (ws : List (Int × Int)) (h₀ : Heap) (L : Addr) (m : Str → Option Value) (news : List (Addr × Obj)) (Q : Value → Heap → Nat → Prop) : Prop :=
  ∀ (D : Addr) (rs : List Value) (cs : List (Int × Int)) (nn : Nat) (ex : List (Addr × Obj)) (h' : Heap) (tk' : Nat), Pairs ex rs cs → cs.Perm ws → Sorted cs → Fr h₀ L h' m → News h₀ L h' ((D, listOf rs.toArray nn) :: (ex ++ news)) → Q (.ref D) h' tk'
/-- the signs from 128 on, with their places, by place -/
def wideTo (b : List Nat) : Nat → List (Int × Int)
  | 0 => []
  | i + 1 => wideTo b i ++ if 127 < b.getD i 0 then [((b.getD i 0 : Int), (i : Int))] else []
def wide (b : List Nat) : List (Int × Int) := wideTo b b.length
theorem wideTo_len (b : List Nat) : ∀ i, (wideTo b i).length ≤ i
  | 0 => Nat.le_refl _
  | i + 1 => by
    have := wideTo_len b i
    simp only [wideTo, List.length_append]
    split <;> simp <;> omega
theorem Pairs.snoc {ex : List (Addr × Obj)} {vs : List Value} {cs : List (Int × Int)} (h : Pairs ex vs cs) (T : Addr) (t1 t2 : Tok) (c : Int × Int) : Pairs ((T, tupObj #[.int c.1 t1, .int c.2 t2]) :: ex) (vs ++ [.ref T]) (cs ++ [c]) := by
  refine ⟨by simp [h.1], fun i hi => ?_⟩
  rw [List.length_append, List.length_singleton] at hi
  by_cases h2 : i < cs.length
  · obtain ⟨T', u1, u2, a, b⟩ := h.2 i h2
    refine ⟨T', u1, u2, ?_, ?_⟩
    · rw [List.getElem?_append_left (by rw [h.1]; exact h2)]; exact a
    · have e : (cs ++ [c]).getD i (0, 0) = cs.getD i (0, 0) := by simp [List.getD_eq_getElem?_getD, List.getElem?_append_left h2]
      rw [e]; exact .tail _ b
  · have hi' : i = cs.length := by omega
    subst hi'
    refine ⟨T, t1, t2, ?_, ?_⟩
    · rw [← h.1]; simp
    · have e : (cs ++ [c]).getD cs.length (0, 0) = c := by simp [List.getD_eq_getElem?_getD]
      rw [e]; exact .head _

theorem wideTo_mem (b : List Nat) : ∀ i, ∀ c ∈ wideTo b i, 0 ≤ c.2 ∧ c.2 < (i : Int)
  | 0, c, hc => by simp [wideTo] at hc
  | i + 1, c, hc => by
    simp only [wideTo, List.mem_append] at hc
    rcases hc with hc | hc
    · have := wideTo_mem b i c hc; omega
    · split at hc
      · rw [List.mem_singleton.mp hc]; dsimp only; omega
      · simp at hc
theorem wideTo_asc (b : List Nat) : ∀ i, (wideTo b i).Pairwise fun x y => x.2 < y.2
  | 0 => .nil
  | i + 1 => by
    simp only [wideTo]
    refine List.pairwise_append.mpr ⟨wideTo_asc b i, ?_, ?_⟩
    · split
      · exact List.pairwise_singleton _ _
      · exact .nil
    · intro x hx y hy
      have := wideTo_mem b i x hx
      split at hy
      · rw [List.mem_singleton.mp hy]; dsimp only; omega
      · simp at hy
theorem wide_inj (b : List Nat) (hb : b.length ≤ 1000) : ∀ i j, i < (wide b).length → j < (wide b).length → pk ((wide b).getD i (0, 0)) = pk ((wide b).getD j (0, 0)) → i = j := by
  have g : ∀ i, i < (wide b).length → 0 ≤ ((wide b).getD i (0, 0)).2 ∧ ((wide b).getD i (0, 0)).2 < 1000 := fun i hi => by
    rw [List.getD_eq_getElem?_getD, List.getElem?_eq_getElem hi]
    have := wideTo_mem b b.length _ (List.getElem_mem hi)
    simp only [Option.getD_some]; omega
  have lt : ∀ i j, i < j → j < (wide b).length → ((wide b).getD i (0, 0)).2 < ((wide b).getD j (0, 0)).2 := fun i j hij hj => by
    have := List.pairwise_iff_getElem.mp (wideTo_asc b b.length) i j (by show i < (wide b).length; omega) hj hij
    rw [List.getD_eq_getElem?_getD, List.getD_eq_getElem?_getD, List.getElem?_eq_getElem hj, List.getElem?_eq_getElem (show i < (wide b).length by omega)]
    exact this
  intro i j hi hj e
  unfold pk at e
  have h1 := g i hi
  have h2 := g j hj
  rcases Nat.lt_trichotomy i j with h | h | h
  · have := lt i j h hj; omega
  · exact h
  · have := lt j i h hi; omega
theorem item_cp {b : Str} {i : Nat} (hi : i < b.length) : (Txt.item b (i : Int)).cps.getD 0 0 = b.cps.toList.getD i 0 := by
  rw [item_at (n := i) (by omega) (by omega) (by omega)]
  simp [List.getD_eq_getElem?_getD, Array.getD_eq_getD_getElem?]

theorem run_spec {w mean mg mb} (b0 : Str) (t1 : Tok) (hb : b0.length ≤ 63) (hw : 1 ≤ (wide b0.cps.toList).length) :
    Claim w mean mg mb 80 [.str b0 t1] 4 (fun _ => True) (RetPairs (wide b0.cps.toList)) := by
  dsimp only [Claim, RetPairs]
  k_fill
  intro dp un gd cn cs a ccd cl outer A₀ base h₀ L m news s Q E B F X N T hk hroom hun hpre hret
  refine wpAny_call ?_
  k_dflt (refine' code_defC (binds := [(Str.ofString "seen", .str b0 t1)]) B F X N T rfl rfl hk ?k6 ?k7 ?k8 ?k9 ?kB ?kD ?_ ?c2 ?c3 ?c4; (case k6 => k_is); (case k7 => k_is); (case k8 => ktr_room); (case k9 => exact BindsTo.of_eq rfl); (case kB => exact rfl); (case kD => decide +kernel); (case c2 => exact rfl); (case c3 => exact rfl); (case c4 => exact rfl))
  intro g L' h₁ tk cells FG F' N' Y' B' X' T' l1
  obtain ⟨oc, hE, d1⟩ := CellsAre.one Y'
  subst hE
  have hcell : oc.data = .cell (some (.str b0 t1)) := d1.trans rfl
  clear d1 Y'
  simp only [List.cons_append, List.nil_append] at N'
  with_reducible show wpAny _ _ _ _ _ _
  k_fold
  k_with_none
  k_with "eval ListComp" => refine Stop.mk ?_
  k_steps
  refine Stop.out ?_
  refine LCt.ListComp_T (F₀ := by k_asm) (by with_unfolding_all rfl) (by decide) (by rfl) (by decide) (by rfl) ?_
  k_with "call type:range" => refine Stop.mk ?_
  k_steps
  refine Stop.out ?_
  rename News g L' _ _ => Nx
  rename Fr g L' _ _ => Fx
  refine range1_rows Fx Nx fun h2 tk2 u1 u2 u3 hr F2 N2 _ => ?_
  clear Fx Nx
  obtain ⟨hsm, hrs⟩ := small_range (a := 0) (b := b0.length) (by omega) (by omega) (by omega)
  have hn9 : ((b0.length : Int) - 0).toNat = b0.length := by omega
  rw [hn9] at hrs
  refine LCt.CompSrcT.range (by rfl) F2 N2 hr hsm hrs (by rw [sizeLine_eq]; omega) ?_
  intro g'
  refine restT (fun i ys nw => ∃ ex, nw = ex ++ (L' + 1, oc) :: news ∧ Pairs ex ys (wideTo b0.cps.toList i)) _ ⟨[], rfl, rfl, fun i hi => by simp [wideTo] at hi⟩ ?_ ?_
  · rintro ys nw ⟨ex, rfl, hys⟩
    intro D h tk FF NN off
    clear F2 N2
    dsimp only
    walk1
    have hbl : b0.cps.toList.length = b0.length := by simp [Str.length]
    have hws : wide b0.cps.toList = wideTo b0.cps.toList b0.length := by unfold wide; rw [hbl]
    rw [← hws] at hys
    refine sorted_pairs (ex := ex) FF NN ⟨_, (NN _ (.head _)).1, rfl, _, rfl⟩ (fun p hp => .tail _ (List.mem_append_left _ hp)) hys hw ?_ ?_ (wide_inj _ (by omega)) fun D' rs cs' c h' tk' FF' NN' hp' pp' sp' => ?_
    · have := wideTo_len b0.cps.toList b0.length
      rw [← hws] at this; omega
    · intro x hx
      have := wideTo_mem _ _ x hx
      omega
    · clear FF NN
      k_steps
      rename News h₀ L _ _ => kN
      refine hret _ rs cs' c ex _ _ hp' pp' sp' (by k_asm) (cb_drop kN fun p hp => ?_)
      rcases List.mem_cons.mp hp with rfl | hp
      · simp
      · rcases List.mem_append.mp hp with hp | hp <;> simp [hp]
  · rintro i ys nw hin ⟨ex, rfl, hys⟩ v I oI C oC D m₂ h tk E' hv hC hx FF NN off ne
    obtain ⟨t, rfl⟩ := hv
    clear F2 N2
    rw [Int.zero_add] at hx
    k_with_none
    k_steps
    refine LCgL.ld_built FF X' T' (by k_is) (by boot_by_name) (by decide) ?_
    walk1
    walk1
    walk1
    refine lcf_cell (o := oc) NN rfl (by simp) hcell ?_ rfl rfl
    refine LCgL.ld_own NN (by k_mem) hC hx ?_
    have hi1 : (i : Int) < b0.length := by omega
    have hi0 : (0 : Int) ≤ i := by omega
    k_steps
    · refine LCgL.ld_built FF X' T' (by k_is) (by boot_by_name) (by decide) ?_
      walk1
      walk1
      walk1
      refine lcf_cell (o := oc) NN rfl (by simp) hcell ?_ rfl rfl
      refine LCgL.ld_own NN (by k_mem) hC hx ?_
      k_steps
      rename Fr g L' _ _ => F9
      rename News g L' _ _ => N9
      rename I < _ ∧ _ => l9
      rename 127 < _ => hgt
      rename Addr => T9
      rw [item_cp hin] at hgt N9
      refine LCg.CompEnd.intro F9 N9 ((T9, tupObj #[.int (b0.cps.toList.getD i 0 : Int) (tk + 1 + 1 + 1 + 1), .int i t]) :: (ex ++ (L' + 1, oc) :: news)) ?_ ?_ trivial ⟨(T9, tupObj #[.int (b0.cps.toList.getD i 0 : Int) (tk + 1 + 1 + 1 + 1), .int i t]) :: ex, rfl, ?_⟩
      rotate_left
      · exact ⟨⟨Nat.ne_of_gt l9.1, Nat.ne_of_gt l9.2.1, Nat.ne_of_gt l9.2.2.1⟩, off⟩
      · have e : wideTo b0.cps.toList (i + 1) = wideTo b0.cps.toList i ++ [((b0.cps.toList.getD i 0 : Int), (i : Int))] := by
          simp only [wideTo]; rw [if_pos (by omega)]
        rw [e]
        exact Pairs.snoc hys _ _ _ ((b0.cps.toList.getD i 0 : Int), (i : Int))
      · intro p hp
        simp only [List.mem_cons] at hp ⊢
        rcases hp with h | h | h | h | h
        · exact .inr (.inl h)
        · exact .inr (.inr (.inl h))
        · exact .inr (.inr (.inr (.inl h)))
        · exact .inl h
        · exact .inr (.inr (.inr (.inr h)))
    · refine LCg.CompEnd.intro FF NN _ (fun p hp => hp) off trivial ⟨ex, rfl, ?_⟩
      rename ¬ 127 < _ => hgt
      rw [item_cp hin] at hgt
      have e : wideTo b0.cps.toList (i + 1) = wideTo b0.cps.toList i := by
        simp only [wideTo]; rw [if_neg (by omega), List.append_nil]
      rw [e]
      exact hys
end Mine
end

section
open PySem PySem.W PyProof.Rows
set_option maxRecDepth 100000
set_option maxHeartbeats 1000000
set_option linter.unusedVariables false
set_option linter.unusedSimpArgs false
namespace Mine

/-- the signs laid, each with its place at its laying -/
def logOf (ch pos : Int) (n : Nat) : List Int → List (Int × Int)
  | [] => []
  | d :: ds => (ch + (pos + (d + 1)) / (n + 1), (pos + (d + 1)) % (n + 1)) :: logOf (ch + (pos + (d + 1)) / (n + 1)) ((pos + (d + 1)) % (n + 1)) (n + 1) ds
def ins1 (b : List Nat) (c : Int × Int) : List Nat := b.take c.2.toNat ++ c.1.toNat :: b.drop c.2.toNat
def insAll : List Nat → List (Int × Int) → List Nat
  | b, [] => b
  | b, c :: l => insAll (ins1 b c) l
def Val : Nat → List (Int × Int) → Prop
  | _, [] => True
  | n, c :: l => (0 ≤ c.2 ∧ c.2 ≤ n ∧ 127 < c.1) ∧ Val (n + 1) l
theorem ins1_len {b : List Nat} {c : Int × Int} (h : 0 ≤ c.2 ∧ c.2 ≤ b.length) : (ins1 b c).length = b.length + 1 := by
  unfold ins1
  simp only [List.length_append, List.length_take, List.length_cons, List.length_drop]
  omega
theorem logOf_len : ∀ (ds : List Int) (ch pos : Int) (n : Nat), (logOf ch pos n ds).length = ds.length
  | [], _, _, _ => rfl
  | d :: ds, ch, pos, n => by simp [logOf, logOf_len ds]
theorem logOf_val : ∀ (ds : List Int) (ch pos : Int) (n : Nat), 127 < ch → -1 ≤ pos → (∀ d ∈ ds, 0 ≤ d) → Val n (logOf ch pos n ds)
  | [], _, _, _, _, _, _ => trivial
  | d :: ds, ch, pos, n, h1, h2, h3 => by
    have hd := h3 d (.head _)
    have e0 := Int.ediv_nonneg (show 0 ≤ pos + (d + 1) by omega) (show (0 : Int) ≤ n + 1 by omega)
    have e1 := Int.emod_nonneg (pos + (d + 1)) (show (n : Int) + 1 ≠ 0 by omega)
    have e2 := Int.emod_lt_of_pos (pos + (d + 1)) (show (0 : Int) < n + 1 by omega)
    refine ⟨⟨e1, ?_, ?_⟩, logOf_val ds _ _ _ (by omega) (by omega) fun x hx => h3 x (.tail _ hx)⟩
    · dsimp only; omega
    · dsimp only; omega
theorem insP_log : ∀ (ds : List Int) (ch pos : Int) (b : List Nat), 127 < ch → -1 ≤ pos → (∀ d ∈ ds, 0 ≤ d) → insP ch pos b ds = insAll b (logOf ch pos b.length ds)
  | [], _, _, _, _, _, _ => rfl
  | d :: ds, ch, pos, b, h1, h2, h3 => by
    have hv := logOf_val (d :: ds) ch pos b.length h1 h2 h3
    have hd := h3 d (.head _)
    have e0 := Int.ediv_nonneg (show 0 ≤ pos + (d + 1) by omega) (show (0 : Int) ≤ b.length + 1 by omega)
    have hl := ins1_len (b := b) (c := (ch + (pos + (d + 1)) / (b.length + 1), (pos + (d + 1)) % (b.length + 1))) ⟨hv.1.1, hv.1.2.1⟩
    have ih := insP_log ds (ch + (pos + (d + 1)) / (b.length + 1)) ((pos + (d + 1)) % (b.length + 1)) (ins1 b (ch + (pos + (d + 1)) / (b.length + 1), (pos + (d + 1)) % (b.length + 1))) (by omega) (by have := hv.1.1; dsimp only at this; omega) fun x hx => h3 x (.tail _ hx)
    rw [hl] at ih
    exact ih

/-! places move when a sign is laid -/
def sh (p q : Int) : Int := if p ≤ q then q + 1 else q
def shAll : Int → List (Int × Int) → Int
  | q, [] => q
  | q, c :: l => shAll (sh c.2 q) l
def fin : List (Int × Int) → List (Int × Int)
  | [] => []
  | c :: l => (c.1, shAll c.2 l) :: fin l
theorem fin_len : ∀ l, (fin l).length = l.length
  | [] => rfl
  | c :: l => by simp [fin, fin_len l]
theorem sh_mono {p a b : Int} (h : a < b) : sh p a < sh p b := by unfold sh; split <;> split <;> omega
theorem shAll_mono : ∀ (l : List (Int × Int)) {a b : Int}, a < b → shAll a l < shAll b l
  | [], _, _, h => h
  | c :: l, _, _, h => shAll_mono l (sh_mono h)
theorem shAll_range : ∀ (l : List (Int × Int)) (n : Nat) (q : Int), 0 ≤ q → q < n → 0 ≤ shAll q l ∧ shAll q l < n + l.length
  | [], n, q, h1, h2 => ⟨h1, by simpa [shAll] using h2⟩
  | c :: l, n, q, h1, h2 => by
    have hs : 0 ≤ sh c.2 q ∧ sh c.2 q < (n + 1 : Nat) := by unfold sh; split <;> omega
    have := shAll_range l (n + 1) (sh c.2 q) hs.1 hs.2
    simp only [shAll, List.length_cons]
    omega
theorem fin_range : ∀ (l : List (Int × Int)) (n : Nat), Val n l → ∀ y ∈ fin l, 0 ≤ y.2 ∧ y.2 < n + l.length
  | [], _, _, _, h => by simp [fin] at h
  | c :: l, n, hv, y, hy => by
    simp only [fin, List.mem_cons] at hy
    rcases hy with rfl | hy
    · have := shAll_range l (n + 1) c.2 hv.1.1 (by have := hv.1.2.1; omega)
      simp only [List.length_cons]; omega
    · have := fin_range l (n + 1) hv.2 y hy
      simp only [List.length_cons]; omega

/-! the wide signs of a text -/
def wz : Nat → List Nat → List (Int × Int)
  | _, [] => []
  | k, x :: r => (if 127 < x then [((x : Int), (k : Int))] else []) ++ wz (k + 1) r
theorem wz_append : ∀ (l r : List Nat) (k : Nat), wz k (l ++ r) = wz k l ++ wz (k + l.length) r
  | [], r, k => by simp [wz]
  | x :: l, r, k => by
    simp only [List.cons_append, wz, wz_append l r (k + 1), List.append_assoc, List.length_cons]
    rw [show k + 1 + l.length = k + (l.length + 1) by omega]
theorem wideTo_wz (b : List Nat) : ∀ i, i ≤ b.length → wideTo b i = wz 0 (b.take i)
  | 0, _ => by simp [wideTo, wz]
  | i + 1, h => by
    have hi : i < b.length := by omega
    rw [List.take_succ_eq_append_getElem hi, wz_append, ← wideTo_wz b i (by omega)]
    have e : b.getD i 0 = b[i] := by simp [List.getD_eq_getElem?_getD, hi]
    have e2 : 0 + (b.take i).length = i := by rw [List.length_take]; omega
    rw [e2]
    simp only [wideTo, wz, List.append_nil, e]
theorem wide_wz (b : List Nat) : wide b = wz 0 b := by
  unfold wide
  rw [wideTo_wz b _ (Nat.le_refl _), List.take_length]
theorem wz_mem : ∀ (l : List Nat) (k : Nat), ∀ c ∈ wz k l, (k : Int) ≤ c.2 ∧ c.2 < k + l.length
  | [], _, _, h => by simp [wz] at h
  | x :: l, k, c, h => by
    simp only [wz, List.mem_append] at h
    rcases h with h | h
    · split at h
      · rw [List.mem_singleton.mp h]; simp only [List.length_cons]; omega
      · simp at h
    · have := wz_mem l (k + 1) c h
      simp only [List.length_cons]; omega
theorem wz_succ : ∀ (l : List Nat) (k : Nat), wz (k + 1) l = (wz k l).map fun x => (x.1, x.2 + 1)
  | [], _ => rfl
  | x :: l, k => by
    simp only [wz, wz_succ l (k + 1), List.map_append]
    congr 1
    split <;> simp
theorem wz_none {b : List Nat} (h : ∀ x ∈ b, x < 128) : ∀ k, wz k b = [] := by
  induction b with
  | nil => intro k; rfl
  | cons x r ih =>
    intro k
    simp only [wz]
    rw [if_neg (by have := h x (.head _); omega), ih fun y hy => h y (.tail _ hy)]
    rfl
theorem wide_ins1 {b : List Nat} {c : Int × Int} (h : 0 ≤ c.2 ∧ c.2 ≤ b.length ∧ 127 < c.1) : (wide (ins1 b c)).Perm (c :: (wide b).map fun x => (x.1, sh c.2 x.2)) := by
  obtain ⟨p, hp⟩ := Int.eq_ofNat_of_zero_le h.1
  obtain ⟨x, hx⟩ := Int.eq_ofNat_of_zero_le (show 0 ≤ c.1 by omega)
  have hc : c = ((x : Int), (p : Int)) := Prod.ext hx hp
  subst hc
  dsimp only at h hp hx ⊢
  have hpl : p ≤ b.length := by omega
  have e1 : wide (ins1 b ((x : Int), (p : Int))) = wz 0 (b.take p) ++ ((x : Int), (p : Int)) :: wz (p + 1) (b.drop p) := by
    rw [wide_wz]
    unfold ins1
    dsimp only
    rw [wz_append]
    have e2 : 0 + (b.take (p : Int).toNat).length = p := by rw [List.length_take]; omega
    rw [e2]
    have e3 : ((p : Int)).toNat = p := by omega
    have e4 : ((x : Int)).toNat = x := by omega
    simp only [wz, e3, e4]
    rw [if_pos (by omega)]
    rfl
  have e5 : wide b = wz 0 (b.take p) ++ wz p (b.drop p) := by
    rw [wide_wz]
    conv => lhs; rw [← List.take_append_drop p b]
    rw [wz_append]
    have e2 : 0 + (b.take p).length = p := by rw [List.length_take]; omega
    rw [e2]
  rw [e1, e5, List.map_append]
  have m1 : (wz 0 (b.take p)).map (fun y => (y.1, sh (p : Int) y.2)) = wz 0 (b.take p) := by
    have : (wz 0 (b.take p)).map (fun y => (y.1, sh (p : Int) y.2)) = (wz 0 (b.take p)).map id := by
      refine List.map_congr_left fun y hy => ?_
      have := wz_mem _ _ y hy
      rw [List.length_take] at this
      unfold sh
      rw [if_neg (by omega)]
      rfl
    rw [this, List.map_id]
  have m2 : (wz p (b.drop p)).map (fun y => (y.1, sh (p : Int) y.2)) = wz (p + 1) (b.drop p) := by
    rw [wz_succ]
    refine List.map_congr_left fun y hy => ?_
    have := wz_mem _ _ y hy
    unfold sh
    rw [if_pos (by omega)]
  rw [m1, m2]
  exact List.perm_middle
theorem wide_insAll : ∀ (l : List (Int × Int)) (b : List Nat), Val b.length l → (wide (insAll b l)).Perm ((wide b).map (fun x => (x.1, shAll x.2 l)) ++ fin l)
  | [], b, _ => by simp [insAll, shAll, fin]
  | c :: l, b, hv => by
    have hl := ins1_len (b := b) (c := c) ⟨hv.1.1, hv.1.2.1⟩
    have ih := wide_insAll l (ins1 b c) (by rw [hl]; exact hv.2)
    have h1 := (wide_ins1 (b := b) (c := c) hv.1).map fun x => ((x.1, shAll x.2 l) : Int × Int)
    rw [List.map_cons, List.map_map] at h1
    refine ih.trans ((h1.append_right _).trans ?_)
    rw [List.cons_append]
    exact List.perm_middle.symm

/-! in order -/
def Asc : Int → Int → List (Int × Int) → Prop
  | _, _, [] => True
  | ch, pos, c :: l => (ch < c.1 ∨ ch = c.1 ∧ pos < c.2) ∧ Asc c.1 c.2 l
theorem logOf_asc : ∀ (ds : List Int) (ch pos : Int) (n : Nat), -1 ≤ pos → (∀ d ∈ ds, 0 ≤ d) → Asc ch pos (logOf ch pos n ds)
  | [], _, _, _, _, _ => trivial
  | d :: ds, ch, pos, n, h2, h3 => by
    have hd := h3 d (.head _)
    have e0 := Int.ediv_nonneg (show 0 ≤ pos + (d + 1) by omega) (show (0 : Int) ≤ n + 1 by omega)
    have e1 := Int.emod_nonneg (pos + (d + 1)) (show (n : Int) + 1 ≠ 0 by omega)
    have e3 := Int.mul_ediv_add_emod (pos + (d + 1)) (n + 1)
    refine ⟨?_, logOf_asc ds _ _ _ (by omega) fun x hx => h3 x (.tail _ hx)⟩
    dsimp only
    by_cases hq : (pos + (d + 1)) / ((n : Int) + 1) = 0
    · right
      rw [hq, Int.mul_zero] at e3
      omega
    · left; omega
theorem fin_after : ∀ (l : List (Int × Int)) (c0 p0 : Int), Asc c0 p0 l → ∀ y ∈ fin l, c0 < y.1 ∨ c0 = y.1 ∧ shAll p0 l < y.2
  | [], _, _, _, _, h => by simp [fin] at h
  | c :: l, c0, p0, ha, y, hy => by
    simp only [fin, List.mem_cons] at hy
    have step : c0 = c.1 → p0 < c.2 → shAll p0 (c :: l) < shAll c.2 l := fun _ h => by
      have e : sh c.2 p0 = p0 := by unfold sh; rw [if_neg (by omega)]
      simp only [shAll, e]
      exact shAll_mono l h
    rcases hy with rfl | hy
    · rcases ha.1 with h | h
      · exact .inl h
      · exact .inr ⟨h.1, step h.1 h.2⟩
    · have ih := fin_after l c.1 c.2 ha.2 y hy
      rcases ha.1 with h | h
      · left
        rcases ih with i | i
        · omega
        · omega
      · have := step h.1 h.2
        rcases ih with i | i
        · left; omega
        · right; exact ⟨by omega, by omega⟩
theorem fin_sorted : ∀ (l : List (Int × Int)) (n : Nat) (ch pos : Int), Val n l → n + l.length ≤ 1000 → Asc ch pos l → Sorted (fin l)
  | [], _, _, _, _, _, _ => .nil
  | c :: l, n, ch, pos, hv, hn, ha => by
    simp only [List.length_cons] at hn
    refine List.pairwise_cons.mpr ⟨fun y hy => ?_, fin_sorted l (n + 1) _ _ hv.2 (by omega) ha.2⟩
    have h1 := fin_after l c.1 c.2 ha.2 y hy
    have h2 := fin_range l (n + 1) hv.2 y hy
    have h3 := shAll_range l (n + 1) c.2 hv.1.1 (by have := hv.1.2.1; omega)
    unfold pk
    dsimp only
    rcases h1 with h | h <;> omega
theorem sorted_uniq : ∀ (a b : List (Int × Int)), a.Perm b → Sorted a → Sorted b → a = b
  | [], b, hp, _, _ => (List.nil_perm.mp hp).symm
  | x :: a, [], hp, _, _ => by have := hp.length_eq; simp at this
  | x :: a, y :: b, hp, ha, hb => by
    have ha' := List.pairwise_cons.mp ha
    have hb' := List.pairwise_cons.mp hb
    have hxy : x = y := by
      have h1 := hp.mem_iff.mp (List.mem_cons_self (a := x) (l := a))
      have h2 := hp.mem_iff.mpr (List.mem_cons_self (a := y) (l := b))
      rcases List.mem_cons.mp h1 with h1 | h1
      · exact h1
      · rcases List.mem_cons.mp h2 with h2 | h2
        · exact h2.symm
        · have := ha'.1 y h2
          have := hb'.1 x h1
          omega
    subst hxy
    rw [sorted_uniq a b (List.Perm.cons_inv hp) ha'.2 hb'.2]
end Mine
end

section
open PySem PySem.W PyProof.Rows
set_option maxRecDepth 100000
set_option maxHeartbeats 1000000
set_option linter.unusedVariables false
set_option linter.unusedSimpArgs false
namespace Mine

/-! a sign taken out -/
def un (q p : Int) : Int := if p ≤ q then p else p - 1
def unsh : Int → List (Int × Int) → List (Int × Int)
  | _, [] => []
  | q, c :: l => (c.1, un q c.2) :: unsh (sh c.2 q) l
theorem ins1_at {b : List Nat} {c : Int × Int} (h : 0 ≤ c.2 ∧ c.2 ≤ b.length) (i : Nat) : (ins1 b c)[i]? = if i < c.2.toNat then b[i]? else if i = c.2.toNat then some c.1.toNat else b[i - 1]? := by
  unfold ins1
  have hl : (b.take c.2.toNat).length = c.2.toNat := by rw [List.length_take]; omega
  by_cases h1 : i < c.2.toNat
  · rw [if_pos h1, List.getElem?_append_left (by omega), List.getElem?_take_of_lt h1]
  · rw [if_neg h1, List.getElem?_append_right (by omega), hl]
    by_cases h2 : i = c.2.toNat
    · rw [if_pos h2, h2, Nat.sub_self]; rfl
    · rw [if_neg h2]
      obtain ⟨k, hk⟩ : ∃ k, i - c.2.toNat = k + 1 := ⟨i - c.2.toNat - 1, by omega⟩
      rw [hk, List.getElem?_cons_succ, List.getElem?_drop]
      congr 1; omega
theorem ins1_erase_self {b : List Nat} {c : Int × Int} (h : 0 ≤ c.2 ∧ c.2 ≤ b.length) : (ins1 b c).eraseIdx c.2.toNat = b := by
  apply List.ext_getElem?
  intro i
  rw [List.getElem?_eraseIdx]
  split
  · rw [ins1_at h, if_pos (by assumption)]
  · rw [ins1_at h, if_neg (by omega), if_neg (by omega)]
    rfl
theorem erase_ins_lo (b : List Nat) (x p q : Nat) (hp : p ≤ q) (i : Nat) :
    (if i < q + 1 then (if i < p then b[i]? else if i = p then some x else b[i - 1]?) else (if i + 1 < p then b[i + 1]? else if i + 1 = p then some x else b[i + 1 - 1]?)) =
    if i < p then (if i < q then b[i]? else b[i + 1]?) else if i = p then some x else (if i - 1 < q then b[i - 1]? else b[i - 1 + 1]?) := by
  by_cases h1 : i < p
  · rw [if_pos h1, if_pos h1, if_pos (by omega), if_pos (by omega)]
  · rw [if_neg h1, if_neg h1]
    by_cases h2 : i = p
    · rw [if_pos h2, if_pos h2, if_pos (by omega)]
    · rw [if_neg h2, if_neg h2]
      by_cases h3 : i < q + 1
      · rw [if_pos h3, if_pos (by omega)]
      · rw [if_neg h3, if_neg (by omega), if_neg (by omega), if_neg (by omega), Nat.add_sub_cancel, show i - 1 + 1 = i by omega]
theorem erase_ins_hi (b : List Nat) (x p q : Nat) (hp : q < p) (i : Nat) :
    (if i < q then (if i < p then b[i]? else if i = p then some x else b[i - 1]?) else (if i + 1 < p then b[i + 1]? else if i + 1 = p then some x else b[i + 1 - 1]?)) =
    if i < p - 1 then (if i < q then b[i]? else b[i + 1]?) else if i = p - 1 then some x else (if i - 1 < q then b[i - 1]? else b[i - 1 + 1]?) := by
  by_cases h1 : i < q
  · rw [if_pos h1, if_pos (by omega), if_pos (by omega), if_pos h1]
  · rw [if_neg h1]
    by_cases h2 : i + 1 < p
    · rw [if_pos h2, if_pos (by omega), if_neg h1]
    · rw [if_neg h2, if_neg (show ¬ i < p - 1 by omega)]
      by_cases h3 : i + 1 = p
      · rw [if_pos h3, if_pos (by omega)]
      · rw [if_neg h3, if_neg (by omega), if_neg (by omega), Nat.add_sub_cancel, show i - 1 + 1 = i by omega]
theorem ins1_erase {b : List Nat} {c : Int × Int} {q : Int} (h : 0 ≤ c.2 ∧ c.2 ≤ b.length) (hq : 0 ≤ q ∧ q < b.length) : (ins1 b c).eraseIdx (sh c.2 q).toNat = ins1 (b.eraseIdx q.toNat) (c.1, un q c.2) := by
  have hl : (b.eraseIdx q.toNat).length = b.length - 1 := List.length_eraseIdx_of_lt (by omega)
  have hu : 0 ≤ un q c.2 ∧ un q c.2 ≤ ((b.eraseIdx q.toNat).length : Int) := by
    rw [hl]; unfold un; split <;> omega
  apply List.ext_getElem?
  intro i
  rw [List.getElem?_eraseIdx, ins1_at h, ins1_at h, ins1_at (c := (c.1, un q c.2)) hu, List.getElem?_eraseIdx, List.getElem?_eraseIdx]
  dsimp only
  clear hu hl
  by_cases hpq : c.2 ≤ q
  · have e1 : (sh c.2 q).toNat = q.toNat + 1 := by unfold sh; rw [if_pos hpq]; omega
    have e2 : (un q c.2).toNat = c.2.toNat := by unfold un; rw [if_pos hpq]
    rw [e1, e2]
    exact erase_ins_lo b _ _ _ (by omega) i
  · have e1 : (sh c.2 q).toNat = q.toNat := by unfold sh; rw [if_neg hpq]
    have e2 : (un q c.2).toNat = c.2.toNat - 1 := by unfold un; rw [if_neg hpq]; omega
    rw [e1, e2]
    exact erase_ins_hi b _ _ _ (by omega) i
theorem insAll_erase : ∀ (l : List (Int × Int)) (b : List Nat) (q : Int), Val b.length l → 0 ≤ q → q < b.length → (insAll b l).eraseIdx (shAll q l).toNat = insAll (b.eraseIdx q.toNat) (unsh q l)
  | [], _, _, _, _, _ => rfl
  | c :: l, b, q, hv, h1, h2 => by
    have hl := ins1_len (b := b) (c := c) ⟨hv.1.1, hv.1.2.1⟩
    have hs : 0 ≤ sh c.2 q ∧ sh c.2 q < (b.length + 1 : Nat) := by unfold sh; split <;> omega
    have ih := insAll_erase l (ins1 b c) (sh c.2 q) (by rw [hl]; exact hv.2) hs.1 (by rw [hl]; exact hs.2)
    simp only [insAll, shAll, unsh]
    rw [ih, ins1_erase ⟨hv.1.1, hv.1.2.1⟩ ⟨h1, h2⟩]

/-! the numbers of the text without that sign -/
def bz (p : Prop) [Decidable p] : Int := if p then 1 else 0
def numbs (x2 : Int) : Int × Int → Int → List Int → List (Int × Int) → List Int
  | prev, extra, d :: ds, c :: cs => (d - (c.1 - prev.1) - (if c.2 > x2 then 1 else 0) + (if prev.2 > x2 then 1 else 0) + extra) :: numbs x2 c 0 ds cs
  | _, _, _, _ => []
theorem numbs_range (x2 : Int) : ∀ (ds : List Int) (cs : List (Int × Int)) (prev : Int × Int) (extra : Int), cs.length = ds.length →
    (List.range ds.length).map (fun j => ds.getD j 0 - ((cs.getD j (0, 0)).1 - ((prev :: cs).getD j (0, 0)).1) - (if (cs.getD j (0, 0)).2 > x2 then 1 else 0) + (if ((prev :: cs).getD j (0, 0)).2 > x2 then 1 else 0) + (if j = 0 then extra else 0)) = numbs x2 prev extra ds cs
  | [], [], _, _, _ => rfl
  | [], _ :: _, _, _, h => by simp at h
  | _ :: _, [], _, _, h => by simp at h
  | d :: ds, c :: cs, prev, extra, h => by
    have ih := numbs_range x2 ds cs c 0 (by simpa using h)
    rw [List.length_cons, List.range_succ_eq_map, List.map_cons, List.map_map]
    simp only [numbs]
    rw [← ih]
    congr 1
    refine List.map_congr_left fun j _ => ?_
    simp only [Function.comp_def, List.getD_cons_succ, Nat.succ_ne_zero, if_false]
    cases j <;> simp
theorem without_zero (d : Int) (ds : List Int) (x : Int × Int) (cs : List (Int × Int)) (h : cs.length = ds.length) : withoutP (d :: ds) (x :: cs) 0 = numbs x.2 x (d + 1) ds cs := by
  rw [← numbs_range x.2 ds cs x (d + 1) h]
  unfold withoutP
  simp only [List.take_zero, List.nil_append, List.length_cons, Nat.zero_add, Nat.add_sub_cancel]
  refine List.map_congr_left fun j _ => ?_
  unfold numb
  have e1 : (1 + j) - 1 = j := by omega
  have e2 : 1 + j = j + 1 := by omega
  rw [e1, e2]
  simp only [List.getD_cons_succ, List.getD_cons_zero]
  have e3 : (if j + 1 = 0 + 1 then d + 1 else 0 : Int) = if j = 0 then d + 1 else 0 := by
    by_cases hj : j = 0
    · simp [hj]
    · rw [if_neg hj, if_neg (by omega)]
  rw [e3]
theorem without_succ (d : Int) (ds : List Int) (x : Int × Int) (cs : List (Int × Int)) (g : Nat) : withoutP (d :: ds) (x :: cs) (g + 1) = d :: withoutP ds cs g := by
  unfold withoutP
  simp only [List.take_succ_cons, List.cons_append, List.length_cons]
  congr 2
  have e0 : ds.length + 1 - (g + 1 + 1) = ds.length - (g + 1) := by omega
  rw [e0]
  refine List.map_congr_left fun j _ => ?_
  unfold numb
  have e1 : g + 1 + 1 + j = (g + 1 + j) + 1 := by omega
  have e2 : g + 1 + j + 1 - 1 = (g + j) + 1 := by omega
  have e3 : g + 1 + j - 1 = g + j := by omega
  rw [e1, e2, e3]
  simp only [List.getD_cons_succ]
  have e4 : (if g + 1 + j + 1 = g + 1 + 1 then ds.getD g 0 + 1 else 0 : Int) = if g + 1 + j = g + 1 then ds.getD g 0 + 1 else 0 := by
    by_cases hj : j = 0
    · simp [hj]
    · rw [if_neg (by omega), if_neg (by omega)]
  rw [e4]
theorem log_step {ch pos c p num : Int} {n : Nat} (h : pos + (num + 1) = (c - ch) * (n + 1) + p) (h0 : 0 ≤ p) (h1 : p ≤ n) : ch + (pos + (num + 1)) / ((n : Int) + 1) = c ∧ (pos + (num + 1)) % ((n : Int) + 1) = p := by
  rw [h, Int.add_comm ((c - ch) * _) p, Int.add_mul_ediv_right _ _ (by omega), Int.add_mul_emod_self_right, Int.ediv_eq_zero_of_lt h0 (by omega), Int.emod_eq_of_lt h0 (by omega)]
  omega
theorem log_inv (pos d : Int) (n : Nat) : pos + (d + 1) = (pos + (d + 1)) / ((n : Int) + 1) * (n + 1) + (pos + (d + 1)) % ((n : Int) + 1) := by
  have := Int.mul_ediv_add_emod (pos + (d + 1)) (n + 1)
  rw [Int.mul_comm] at this
  omega
/-- the heart: the numbers worked out of the row give the log without that sign, none is below nought, and they sum to no more -/
theorem numbs_ok : ∀ (ds : List Int) (n : Nat) (cp pp q ch pos x2 f extra : Int), (∀ d ∈ ds, 0 ≤ d) → 0 ≤ pp → pp ≤ n → 0 ≤ q → q ≤ n → x2 = shAll q (logOf cp pp (n + 1) ds) →
    extra + (if f > x2 then 1 else 0) = (cp - ch) * (n + 1) + pp - pos → ch ≤ cp → pos < n →
    (ch = cp → (pos = pp ∧ pp < q) ∨ (pos = pp - 1 ∧ q < pp) ∨ (pos < pp ∧ pp = q)) →
    logOf ch pos n (numbs x2 (cp, f) extra ds (fin (logOf cp pp (n + 1) ds))) = unsh q (logOf cp pp (n + 1) ds) ∧ (∀ d ∈ numbs x2 (cp, f) extra ds (fin (logOf cp pp (n + 1) ds)), 0 ≤ d) ∧
      (ds ≠ [] → (numbs x2 (cp, f) extra ds (fin (logOf cp pp (n + 1) ds))).sum ≤ ds.sum + extra + (if f > x2 then 1 else 0)) ∧ (numbs x2 (cp, f) extra ds (fin (logOf cp pp (n + 1) ds))).length = ds.length
  | [], _, _, _, _, _, _, _, _, _, _, _, _, _, _, _, _, _, _, _ => ⟨rfl, fun d h => by simp [numbs] at h, fun h => absurd rfl h, rfl⟩
  | d :: ds, n, cp, pp, q, ch, pos, x2, f, extra, hd, h1, h2, h3, h4, hx, hH, hc, hp, hK => by
    have hd0 := hd d (.head _)
    have E := log_inv pp d (n + 1)
    have hasc := (logOf_asc (d :: ds) cp pp (n + 1) (by omega) hd).1
    have p0 := Int.emod_nonneg (pp + (d + 1)) (show ((n + 1 : Nat) : Int) + 1 ≠ 0 by omega)
    have p1 := Int.emod_lt_of_pos (pp + (d + 1)) (show (0 : Int) < ((n + 1 : Nat) : Int) + 1 by omega)
    have q0 := Int.ediv_nonneg (show 0 ≤ pp + (d + 1) by omega) (show (0 : Int) ≤ ((n + 1 : Nat) : Int) + 1 by omega)
    simp only [logOf] at hx hasc ⊢
    simp only [fin, numbs, unsh, shAll] at hx ⊢
    generalize hk : (pp + (d + 1)) / (((n + 1 : Nat) : Int) + 1) = k at *
    generalize hpz : (pp + (d + 1)) % (((n + 1 : Nat) : Int) + 1) = p at *
    have ha : (if shAll p (logOf (cp + k) p (n + 1 + 1) ds) > x2 then 1 else 0 : Int) = p - un q p := by
      by_cases hpq : p ≤ q
      · have e : sh p q = q + 1 := by unfold sh; rw [if_pos hpq]
        rw [e] at hx
        have := shAll_mono (logOf (cp + k) p (n + 1 + 1) ds) (show p < q + 1 by omega)
        rw [if_neg (by omega)]; unfold un; rw [if_pos hpq]; omega
      · have e : sh p q = q := by unfold sh; rw [if_neg hpq]
        rw [e] at hx
        have := shAll_mono (logOf (cp + k) p (n + 1 + 1) ds) (show q < p by omega)
        rw [if_pos (by omega)]; unfold un; rw [if_neg hpq]; omega
    have hun : 0 ≤ un q p ∧ un q p ≤ n := by unfold un; split <;> omega
    have hun2 : un q p ≤ p := by unfold un; split <;> omega
    generalize hnum : d - (cp + k - cp) - (if shAll p (logOf (cp + k) p (n + 1 + 1) ds) > x2 then 1 else 0) + (if f > x2 then 1 else 0) + extra = num
    have hstep : pos + (num + 1) = (cp + k - ch) * (n + 1) + un q p := by
      have e1 : (cp + k - ch) * ((n : Int) + 1) = (cp - ch) * (n + 1) + k * (n + 1) := by rw [← Int.add_mul]; congr 1; omega
      have e2 : k * (((n + 1 : Nat) : Int) + 1) = k * (n + 1) + k := by
        rw [show ((n + 1 : Nat) : Int) + 1 = (n + 1) + 1 by omega, Int.mul_add, Int.mul_one]
      rw [e2] at E
      rw [e1]
      omega
    obtain ⟨L1, L2⟩ := log_step hstep hun.1 hun.2
    have hnn : 0 ≤ num := by
      by_cases hcc : ch < cp + k
      · have : (1 : Int) * (n + 1) ≤ (cp + k - ch) * (n + 1) := Int.mul_le_mul_of_nonneg_right (by omega) (by omega)
        omega
      · have e : cp + k - ch = 0 := by omega
        rw [e, Int.zero_mul] at hstep
        have hpp : pp < p := by rcases hasc with h | h <;> omega
        have hKK := hK (by omega)
        unfold un at hstep
        split at hstep <;> rcases hKK with h | h | h <;> omega
    have hsh : 0 ≤ sh p q ∧ sh p q ≤ (n + 1 : Nat) := by unfold sh; split <;> omega
    have hlr : x2 = shAll (sh p q) (logOf (cp + k) p (n + 1 + 1) ds) := hx
    have ih := numbs_ok ds (n + 1) (cp + k) p (sh p q) (cp + k) (un q p) x2 (shAll p (logOf (cp + k) p (n + 1 + 1) ds)) 0 (fun x hx => hd x (.tail _ hx)) p0 (by omega) hsh.1 hsh.2 hlr
      (by rw [ha, Int.sub_self, Int.zero_mul]; omega) (Int.le_refl _) (by omega) (fun _ => by unfold un sh; by_cases hpq : p ≤ q
                                                                                              · rw [if_pos hpq, if_pos hpq]; left; omega
                                                                                              · rw [if_neg hpq, if_neg hpq]; right; left; omega)
    refine ⟨?_, ?_, ?_, ?_⟩
    · simp only [logOf]
      rw [L1, L2, ih.1]
    · intro x hx
      rcases List.mem_cons.mp hx with rfl | hx
      · exact hnn
      · exact ih.2.1 x hx
    · intro _
      rw [List.sum_cons, List.sum_cons]
      by_cases he : ds = []
      · subst he
        simp only [numbs, List.sum_nil]
        split at hnum <;> omega
      · have := ih.2.2.1 he
        omega
    · simp only [List.length_cons, ih.2.2.2]
end Mine
end

section
open PySem PySem.W PyProof.Rows
set_option maxRecDepth 100000
set_option maxHeartbeats 1000000
set_option linter.unusedVariables false
set_option linter.unusedSimpArgs false
namespace Mine

theorem insAll_len : ∀ (l : List (Int × Int)) (b : List Nat), Val b.length l → (insAll b l).length = b.length + l.length
  | [], _, _ => rfl
  | c :: l, b, hv => by
    have hl := ins1_len (b := b) (c := c) ⟨hv.1.1, hv.1.2.1⟩
    have := insAll_len l (ins1 b c) (by rw [hl]; exact hv.2)
    simp only [insAll, this, hl, List.length_cons]
    omega
theorem out_ok : ∀ (g : Nat) (ds : List Int) (ch pos : Int) (b : List Nat), g < ds.length → 127 < ch → -1 ≤ pos → pos < b.length → (∀ d ∈ ds, 0 ≤ d) →
    insAll b (logOf ch pos b.length (withoutP ds (fin (logOf ch pos b.length ds)) g)) = (insAll b (logOf ch pos b.length ds)).eraseIdx ((fin (logOf ch pos b.length ds)).getD g (0, 0)).2.toNat ∧
    (∀ d ∈ withoutP ds (fin (logOf ch pos b.length ds)) g, 0 ≤ d) ∧ (withoutP ds (fin (logOf ch pos b.length ds)) g).sum + (withoutP ds (fin (logOf ch pos b.length ds)) g).length ≤ ds.sum + ds.length ∧
    (withoutP ds (fin (logOf ch pos b.length ds)) g).length + 1 = ds.length
  | _, [], _, _, _, h, _, _, _, _ => by simp at h
  | 0, d :: ds, ch, pos, b, _, h1, h2, h3, h4 => by
    have hv := logOf_val (d :: ds) ch pos b.length h1 h2 h4
    have hasc := (logOf_asc (d :: ds) ch pos b.length h2 h4).1
    have hd := h4 d (.head _)
    have E := log_inv pos d b.length
    have q0 := Int.ediv_nonneg (show 0 ≤ pos + (d + 1) by omega) (show (0 : Int) ≤ (b.length : Int) + 1 by omega)
    simp only [logOf] at hv hasc ⊢
    generalize (pos + (d + 1)) / ((b.length : Int) + 1) = k at *
    generalize (pos + (d + 1)) % ((b.length : Int) + 1) = p at *
    have hl := ins1_len (b := b) (c := (ch + k, p)) ⟨hv.1.1, hv.1.2.1⟩
    obtain ⟨⟨v1, v2, v3⟩, hv2⟩ := hv
    dsimp only at v1 v2 v3 hasc
    simp only [fin]
    rw [without_zero _ _ _ _ (by rw [fin_len, logOf_len])]
    dsimp only
    have hno : ¬ shAll p (logOf (ch + k) p (b.length + 1) ds) > shAll p (logOf (ch + k) p (b.length + 1) ds) := by omega
    have ok := numbs_ok ds b.length (ch + k) p p ch pos _ (shAll p (logOf (ch + k) p (b.length + 1) ds)) (d + 1) (fun x hx => h4 x (.tail _ hx)) v1 v2 v1 v2 rfl
      (by rw [if_neg hno]
          have e : ch + k - ch = k := by omega
          rw [e]; omega) (by omega) h3 (fun e => by right; right; exact ⟨by rcases hasc with h | h <;> omega, rfl⟩)
    rw [if_neg hno] at ok
    refine ⟨?_, ok.2.1, ?_, by rw [ok.2.2.2]; simp⟩
    · have er := insAll_erase (logOf (ch + k) p (b.length + 1) ds) (ins1 b (ch + k, p)) p (by rw [hl]; exact hv2) v1 (by rw [hl]; omega)
      have es := ins1_erase_self (b := b) (c := (ch + k, p)) ⟨v1, v2⟩
      dsimp only at es
      rw [es] at er
      rw [ok.1]
      simp only [insAll, List.getD_cons_zero]
      exact er.symm
    · rw [ok.2.2.2]
      by_cases he : ds = []
      · subst he
        simp only [numbs, List.sum_nil, List.sum_cons, List.length_nil, List.length_cons]
        omega
      · have := ok.2.2.1 he
        simp only [List.sum_cons, List.length_cons]
        omega
  | g + 1, d :: ds, ch, pos, b, h, h1, h2, h3, h4 => by
    have hv := logOf_val (d :: ds) ch pos b.length h1 h2 h4
    have hd := h4 d (.head _)
    have q0 := Int.ediv_nonneg (show 0 ≤ pos + (d + 1) by omega) (show (0 : Int) ≤ (b.length : Int) + 1 by omega)
    simp only [logOf] at hv ⊢
    have hl := ins1_len (b := b) (c := (ch + (pos + (d + 1)) / ((b.length : Int) + 1), (pos + (d + 1)) % ((b.length : Int) + 1))) ⟨hv.1.1, hv.1.2.1⟩
    have ih := out_ok g ds (ch + (pos + (d + 1)) / ((b.length : Int) + 1)) ((pos + (d + 1)) % ((b.length : Int) + 1)) (ins1 b (ch + (pos + (d + 1)) / ((b.length : Int) + 1), (pos + (d + 1)) % ((b.length : Int) + 1)))
      (by simpa using h) (by omega) (by have := hv.1.1; dsimp only at this; omega) (by rw [hl]; have := hv.1.2.1; dsimp only at this; omega) fun x hx => h4 x (.tail _ hx)
    rw [hl] at ih
    simp only [fin]
    rw [without_succ]
    simp only [logOf, insAll, List.getD_cons_succ]
    refine ⟨ih.1, ?_, ?_, ?_⟩
    · intro x hx
      rcases List.mem_cons.mp hx with rfl | hx
      · exact hd
      · exact ih.2.1 x hx
    · have := ih.2.2.1
      simp only [List.sum_cons, List.length_cons]
      omega
    · have := ih.2.2.2
      simp only [List.length_cons]
      omega

/-! what the walk asks -/
/-- the signs that the row lays, with their last places, in order -/
def runOf (n : Nat) (ds : List Int) : List (Int × Int) := fin (logOf 128 (-1) n ds)
theorem runOf_len (n : Nat) (ds : List Int) : (runOf n ds).length = ds.length := by unfold runOf; rw [fin_len, logOf_len]
theorem ins_len (b : List Nat) (ds : List Int) (hd : ∀ d ∈ ds, 0 ≤ d) : (insP 128 (-1) b ds).length = b.length + ds.length := by
  rw [insP_log _ _ _ _ (by omega) (by omega) hd, insAll_len _ _ (logOf_val _ _ _ _ (by omega) (by omega) hd), logOf_len]
theorem wide_perm (b : List Nat) (ds : List Int) (hb : ∀ x ∈ b, x < 128) (hd : ∀ d ∈ ds, 0 ≤ d) : (wide (insP 128 (-1) b ds)).Perm (runOf b.length ds) := by
  have hv := logOf_val ds 128 (-1) b.length (by omega) (by omega) hd
  have h := wide_insAll _ b hv
  rw [wide_wz b, wz_none hb] at h
  rw [insP_log _ _ _ _ (by omega) (by omega) hd]
  unfold runOf
  simpa using h
theorem wide_len (b : List Nat) (ds : List Int) (hb : ∀ x ∈ b, x < 128) (hd : ∀ d ∈ ds, 0 ≤ d) : (wide (insP 128 (-1) b ds)).length = ds.length := by
  rw [(wide_perm b ds hb hd).length_eq, runOf_len]
theorem run_is {b : List Nat} {ds : List Int} {cs : List (Int × Int)} (hb : ∀ x ∈ b, x < 128) (hd : ∀ d ∈ ds, 0 ≤ d) (hl : b.length + ds.length ≤ 1000) (hp : cs.Perm (wide (insP 128 (-1) b ds))) (hs : Sorted cs) : cs = runOf b.length ds :=
  sorted_uniq _ _ (hp.trans (wide_perm b ds hb hd)) hs (fin_sorted _ b.length 128 (-1) (logOf_val _ _ _ _ (by omega) (by omega) hd) (by rw [logOf_len]; omega) (logOf_asc _ _ _ _ (by omega) hd))
theorem run_place {b : List Nat} {ds : List Int} (hd : ∀ d ∈ ds, 0 ≤ d) {g : Nat} (hg : g < ds.length) : 0 ≤ ((runOf b.length ds).getD g (0, 0)).2 ∧ ((runOf b.length ds).getD g (0, 0)).2 < b.length + ds.length := by
  have h := fin_range _ b.length (logOf_val ds 128 (-1) b.length (by omega) (by omega) hd)
  rw [logOf_len] at h
  have hl : g < (runOf b.length ds).length := by rw [runOf_len]; exact hg
  rw [List.getD_eq_getElem?_getD, List.getElem?_eq_getElem hl]
  exact h _ (List.getElem_mem hl)
theorem run_one (n : Nat) (d : Int) : runOf n [d] = [(128 + d / (n + 1), d % (n + 1))] := by
  unfold runOf
  simp only [logOf, fin, shAll]
  have e : (-1 : Int) + (d + 1) = d := by omega
  rw [e]
theorem row_out {b : List Nat} {ds : List Int} (hd : ∀ d ∈ ds, 0 ≤ d) {g : Nat} (hg : g < ds.length) :
    insP 128 (-1) b (withoutP ds (runOf b.length ds) g) = (insP 128 (-1) b ds).eraseIdx ((runOf b.length ds).getD g (0, 0)).2.toNat ∧ (∀ d ∈ withoutP ds (runOf b.length ds) g, 0 ≤ d) ∧
    (withoutP ds (runOf b.length ds) g).sum + (withoutP ds (runOf b.length ds) g).length ≤ ds.sum + ds.length ∧ (withoutP ds (runOf b.length ds) g).length + 1 = ds.length := by
  have h := out_ok g ds 128 (-1) b hg (by omega) (by omega) (by omega) hd
  refine ⟨?_, h.2⟩
  unfold runOf
  rw [insP_log _ _ _ _ (by omega) (by omega) hd, ← h.1, insP_log _ _ _ _ (by omega) (by omega) h.2.1]
theorem mem_le_sum {l : List Int} (h : ∀ d ∈ l, 0 ≤ d) : ∀ d ∈ l, d ≤ l.sum := by
  induction l with
  | nil => intro d hd; cases hd
  | cons x l ih =>
    have h1 := h x (.head _)
    have h2 := sum_nonneg fun d hd => h d (.tail _ hd)
    intro d hd
    rw [List.sum_cons]
    rcases List.mem_cons.mp hd with rfl | hd
    · omega
    · have := ih (fun d hd => h d (.tail _ hd)) d hd
      omega
theorem erase_parts (l : List Nat) (p : Nat) : l.eraseIdx p = l.take p ++ l.drop (p + 1) := List.eraseIdx_eq_take_drop_succ l p
end Mine
end

section
open PySem PySem.W PyProof.Rows
set_option maxRecDepth 100000
set_option maxHeartbeats 4000000
set_option linter.unusedVariables false
namespace Mine
theorem len_at {prog : Program} {w : World} {A : Around} {E : Value → Shared → Prop} {s : Shared} {l : Addr} {vs : List Value} {nn : Nat} {Q : Value → Shared → Prop} {h₀ : Heap} {L : Addr} {news' : List (Addr × Obj)}
    (N : News h₀ L s.heap news') (hl : (l, listOf vs.toArray nn) ∈ news') (hc : vs.length ≤ 1000)
    (h : Q (.int vs.length (s.toks + 1)) { s with toks := s.toks + 1 + 1 }) : wpAny (model prog w) A (call (.builtin "len") [.ref l]) Q E s := by
  have e : vs.toArray.size = vs.length := by simp
  exact len_list (items := vs.toArray) ⟨_, (N _ hl).1, rfl, _, rfl⟩ (by rw [e]; omega) (by rw [e]; exact h)

local macro_rules | `(tactic| walk_at "WPost") => `(tactic| dsimp only [WPost])
local macro_rules | `(tactic| walk_at "call builtin:len") => `(tactic| (k_here; (with_reducible show wpAny _ _ (call (Value.builtin "len") [Value.ref _]) _ _ _); k_dflt (first | (refine' len_row ?k1 ?k2 ?k3 ?k4 ?k5 ?_; (case k1 => with_reducible assumption); (case k4 => with_reducible assumption); (case k2 => k_asm); (case k3 => first | exact fun p hp => hp | (intro p hp; simp [hp])); (case k5 => omega)) | (refine' len_at ?k1 ?k2 ?k3 ?_; (case k1 => k_asm); (case k2 => first | k_mem | exact .head _ | exact .tail _ (List.mem_append_right _ (.head _))); (case k3 => omega)))))
local macro_rules | `(tactic| walk_at "subscriptTail") => `(tactic| (k_here; (with_reducible show wpAny _ _ (subscriptTail _ _ (Value.ref _) (Value.int _ _)) _ _ _); k_dflt (first
  | (refine' item_pair ?k1 ?k2 ?k3 ?k4 ?_ ?k5; (case k1 => with_reducible assumption); (case k2 => k_asm); (case k3 => first | exact fun p hp => hp | (intro p hp; simp [hp])); (case k4 => first | exact Or.inl rfl | exact Or.inr rfl); (case k5 => with_unfolding_all rfl); (first | rw [if_pos rfl] | rw [if_neg (by decide)]))
  | (refine' item_pairs ?k1 ?k2 ?k3 ?k6 ?k4 ?k5 ?k7 ?_ ?k8; (case k1 => with_reducible assumption); (case k6 => with_reducible assumption); (case k2 => k_asm); (case k3 => first | exact fun p hp => hp | (intro p hp; simp [hp])); (case k4 => omega); (case k5 => omega); (case k7 => omega); (case k8 => with_unfolding_all rfl); intro T9 t9 t8 hT9)
  | (refine' item_row ?k1 ?k2 ?k3 ?k6 ?k4 ?k5 ?k7 ?_ ?k8; (case k1 => with_reducible assumption); (case k6 => with_reducible assumption); (case k2 => k_asm); (case k3 => first | exact fun p hp => hp | (intro p hp; simp [hp])); (case k4 => omega); (case k5 => omega); (case k7 => omega); (case k8 => with_unfolding_all rfl); intro t9))))


/-- a statement goes on, the names and the ledger as said -/
def Goes (h₀ : Heap) (L : Addr) (s : Shared) (ps : List (Str × Value)) (news : List (Addr × Obj)) (f : Flow) (s' : Shared) : Prop :=
  f = .next ∧ ∃ (m' : Str → Option Value) (h' : Heap) (tk' : Nat), s' = { s with heap := h', toks := tk' } ∧ Fr h₀ L h' m' ∧ (∀ p ∈ ps, m' p.1 = some p.2) ∧ News h₀ L h' news
theorem goes {h₀ h' : Heap} {L : Addr} {s : Shared} {ps : List (Str × Value)} {news news' : List (Addr × Obj)} {m' : Str → Option Value} {tk' : Nat} (F : Fr h₀ L h' m') (N : News h₀ L h' news') (hk : ∀ p ∈ ps, m' p.1 = some p.2) (hn : ∀ p ∈ news, p ∈ news') :
    Goes h₀ L s ps news .next { s with heap := h', toks := tk' } := ⟨rfl, m', h', tk', rfl, F, hk, fun p hp => N p (hn p hp)⟩

theorem ne_two {prog : Program} {w : World} {A : Around} {E : Value → Shared → Prop} {s : Shared} {Q : Value → Shared → Prop} {x y : Addr} {a b a' b' : Int} {t1 t2 t3 t4 : Tok} (hx : s.heap.get? x = some (tupObj #[.int a t1, .int b t2])) (hy : s.heap.get? y = some (tupObj #[.int a' t3, .int b' t4]))
    (ha : a = a') (hb : b = b') (hu : A.units + 64 < cLine) (h : Q (.bool false) s) : wpAny (model prog w) A (compareOp .NotEq (.ref x) (.ref y)) Q E s := by
  subst ha hb
  exact ne_dataH (reads_tuple_at hx rfl rfl (.cons (.int _ _) (.cons (.int _ _) .nil))) (reads_tuple_at hy rfl rfl (.cons (.int _ _) (.cons (.int _ _) .nil))) rfl rfl hu (by simpa [PyData.eqv, PyData.eqvAll] using h)

theorem emptied_spec {w mean mg mb} (b0 : Str) (l : Addr) (vs : List Value) (ds : List Int) (nn : Nat) (pick : Int) (t1 t2 : Tok) (hi : IntsAre vs ds) (hb : ∀ x ∈ b0.cps.toList, x < 128) (hbl : b0.length ≤ 4)
    (hdn : ∀ d ∈ ds, 0 ≤ d) (hlen : ds.length ≤ 7) (hS : ds.sum + ds.length ≤ 40000) (hp : 0 ≤ pick ∧ pick < 5040) :
    ClaimR w mean mg mb 94 [.str b0 t1, .ref l, .int pick t2] 12 (fun news => (l, listOf vs.toArray nn) ∈ news) (RetFlat (fun _ => .bool true)) := by
  dsimp only [ClaimR, RetFlat]
  k_fill
  intro dp un cn cs a ccd cl outer A₀ base h₀ L m news s Q B F X N0 T hk hroom hun hpre hret
  k_dflt (refine' enterR [(Str.ofString "pick", .int pick t2), (Str.ofString "row", .ref l), (Str.ofString "plain", .str b0 t1)] B F X N0 T hk (by omega) ?k1 ?k2 ?k3 ?k4 ?k5 ?k6 ?k7 ?k8 ?_; (case k1 => k_is); (case k2 => k_is); (case k3 => exact BindsTo.of_eq rfl); (case k4 => exact locs rfl); (case k5 => exact rfl); (case k6 => exact rfl); (case k7 => exact rfl); (case k8 => decide))
  intro g L' h₁ tk FG F' N' hlt B' X' T'
  have hsum := mem_le_sum hdn
  refine rExecs_cons (rAssign (rCall ?_))
  k_with_none
  walk1
  refine rCallWith rfl (rSpliced_any (bm_if_false rfl ?_))
  walk1
  refine rSpliced_any (bm_if_false rfl ?_)
  walk1
  rename News g L' _ _ => Nx
  rename Fr g L' _ _ => Fx
  refine rSpliced_nil (rKeep (K := hd.heap_39 w.params) (by k_is) (X'.keeps Fx.keep) ?_)
  refine read_spec b0 l vs ds nn _ hi (fun d hdm => ⟨hdn d hdm, by have := hsum d hdm; omega⟩) (by omega) (by omega) (by omega) _ _ _ _ _ _ _ _ _ _ _ _ _ _ _ _ B' Fx X' Nx T' rfl (by show dp + 1 + 9 < _; omega) (by show un + 3 + 8 * 9 < _; omega) hpre ?_
  intro t9 h9 tk9 F9 N9
  clear Fx Nx
  dsimp only
  k_steps
  dsimp only
  rename News g L' _ _ => N9
  rename Fr g L' _ _ => F9
  refine rExecs_cons ?_
  refine rWhile (σ := Addr × List Value × List Int × Nat × Str × Int × Tok × Tok) (fun c => (c.1, listOf c.2.1.toArray c.2.2.2.1) :: news)
    (fun c => [(Str.ofString "row", .ref c.1), (Str.ofString "seen", .str c.2.2.2.2.1 c.2.2.2.2.2.2.1), (Str.ofString "pick", .int c.2.2.2.2.2.1 c.2.2.2.2.2.2.2), (Str.ofString "plain", .str b0 t1)])
    (fun c => IntsAre c.2.1 c.2.2.1 ∧ (∀ d ∈ c.2.2.1, 0 ≤ d) ∧ c.2.2.1.length ≤ 7 ∧ c.2.2.1.sum + c.2.2.1.length ≤ 40000 ∧ c.2.2.2.2.1.cps.toList = insP 128 (-1) b0.cps.toList c.2.2.1 ∧ 0 ≤ c.2.2.2.2.2.1 ∧ c.2.2.2.2.2.1 < 5040)
    (fun c => c.2.2.1.length) ⟨l, vs, ds, nn, _, pick, _, _⟩ (by k_asm) (fun p hp => by rcases List.mem_cons.mp hp with rfl | hp; exact N9 _ hpre; exact N9 _ hp) (by kst_all) ⟨hi, hdn, hlen, hS, rfl, hp⟩ ?_
  intro c u h1 tk1 hP F1 N1
  obtain ⟨ra, ws, es, mm, sn, pk', ta, tb⟩ := c
  dsimp only at hP F1 N1 ⊢
  obtain ⟨hP1, hP2, hP3, hP4, hP5, hP6, hP7⟩ := hP
  clear F9 N9
  have hwl : ws.length = es.length := hP1.length
  have hsl : sn.length = b0.length + es.length := by
    have e1 := congrArg List.length hP5
    rw [ins_len _ _ hP2] at e1
    simpa [Str.length] using e1
  rcases Nat.eq_zero_or_pos es.length with he | he
  · have he' : es = [] := List.length_eq_zero_iff.mp he
    subst he'
    have hw' : ws = [] := List.length_eq_zero_iff.mp hwl
    subst hw'
    have hsb : sn = b0 := ext_toList (by rw [hP5]; rfl)
    subst hsb
    k_steps
    refine rExecs_any ?_
    k_steps
    rw [beq_self_eq_true]
    rename News h₀ L _ _ => kN
    exact hret 0 _ _ (by k_asm) (cb_drop kN fun p hp => .tail _ hp)
  · have hW : (wide sn.cps.toList).length = es.length := by rw [hP5]; exact wide_len _ _ hb hP2
    have hwz : ws.toArray.size = es.length := by simp [hwl]
    k_steps
    refine rExecs_any ?_
    k_with "call ref" => refine Stop.mk ?_
    k_steps
    refine Stop.out ?_
    rename News g L' _ _ => Nx
    rename Fr g L' _ _ => Fx
    refine run_spec sn _ (by omega) (by omega) _ _ _ _ _ _ _ _ _ _ _ _ _ _ _ _ _ _ B' Fx X' Nx T' rfl (by show dp + 1 + 4 < _; omega) (by show un + 3 + 8 * 4 < _; omega) trivial ?_
    clear Fx Nx
    intro rr rs cs9 kk ex h9 tk9 hp9 hq9 hs9 F9 N9
    have hcs : cs9 = runOf b0.cps.toList.length es := run_is hb hP2 (by simp [Str.length] at *; omega) (by rw [← hP5]; exact hq9) hs9
    have hcl : cs9.length = es.length := by rw [hcs, runOf_len]
    have hrl : rs.length = es.length := by rw [hp9.1, hcl]
    have hrz : rs.toArray.size = es.length := by simp [hrl]
    clear hq9 hs9
    k_steps
    refine rExecs_cons (wpR_mono (Q := Goes g L' { s with heap := h9, toks := tk9 } [(Str.ofString "run", Value.ref rr), (Str.ofString "row", .ref ra), (Str.ofString "seen", .str sn ta), (Str.ofString "pick", .int pk' tb), (Str.ofString "plain", .str b0 t1)]
      ((rr, listOf rs.toArray kk) :: (ex ++ (ra, listOf ws.toArray mm) :: news))) (wpR_any ?_) ?_)
    · k_steps
      · exfalso; omega
      · exact goes (by k_asm) (by k_asm) (by kst_all) fun p hp => hp
    rintro f s' ⟨rfl, m', h', tk', rfl, F', hk', N'⟩
    dsimp only
    have F8 := fr_kstB hk' F'
    clear F' hk'
    have hm1 : (rr, listOf rs.toArray kk) ∈ (rr, listOf rs.toArray kk) :: (ex ++ (ra, listOf ws.toArray mm) :: news) := .head _
    have hm2 : (ra, listOf ws.toArray mm) ∈ (rr, listOf rs.toArray kk) :: (ex ++ (ra, listOf ws.toArray mm) :: news) := .tail _ (List.mem_append_right _ (.head _))
    have hm3 : ∀ p ∈ news, p ∈ (rr, listOf rs.toArray kk) :: (ex ++ (ra, listOf ws.toArray mm) :: news) := fun p hp => .tail _ (List.mem_append_right _ (.tail _ hp))
    have hpX : Pairs ((rr, listOf rs.toArray kk) :: (ex ++ (ra, listOf ws.toArray mm) :: news)) rs cs9 := ⟨hp9.1, fun i hi => by
      obtain ⟨T9, u1, u2, e1, e2⟩ := hp9.2 i hi
      exact ⟨T9, u1, u2, e1, .tail _ (List.mem_append_left _ e2)⟩⟩
    generalize (rr, listOf rs.toArray kk) :: (ex ++ (ra, listOf ws.toArray mm) :: news) = X9 at *
    clear hp9
    refine rExecs_cons (wpR_mono (Q := Goes g L' { s with heap := h', toks := tk' } [(Str.ofString "run", Value.ref rr), (Str.ofString "row", .ref ra), (Str.ofString "seen", .str sn ta), (Str.ofString "pick", .int pk' tb), (Str.ofString "plain", .str b0 t1)] X9) (wpR_any ?_) ?_)
    · by_cases h1e : es.length = 1
      · obtain ⟨d, rfl⟩ : ∃ d, es = [d] := List.length_eq_one_iff.mp h1e
        rw [run_one] at hcs
        have hd0 := hP2 d (.head _)
        have hbz : (b0.cps.toList.length : Int) = b0.length := by simp [Str.length]
        rw [hbz] at hcs
        subst hcs
        k_with "compareOp NotEq ref ref" => refine Stop.mk ?_
        k_steps
        · refine Stop.out ?_
          rename (_, tupObj _) ∈ X9 => hT9
          rename News g L' _ _ => N9
          refine ne_two (N9 _ (.tail _ hT9)).1 (N9 _ (.head _)).1 ?_ ?_ (by ke_room) ?_
          · show (128 : Int) + d / (b0.length + 1) = 128 + d.fdiv (b0.length + 1)
            rw [fdiv_ediv _ _ (by omega)]
          · show d % ((b0.length : Int) + 1) = d.fmod (b0.length + 1)
            rw [fmod_emod _ _ (by omega)]
          · k_steps
            exact goes (by k_asm) (by k_asm) (by kst_all) fun p hp => .tail _ hp
        · exact goes (by k_asm) (by k_asm) (by kst_all) fun p hp => hp
      · k_steps
        · exfalso; omega
        · exact goes (by k_asm) (by k_asm) (by kst_all) fun p hp => hp
    rintro f s' ⟨rfl, m2, h2, tk2, rfl, F2, hk2, N2⟩
    dsimp only
    have F3 := fr_kstB hk2 F2
    clear F2 hk2 F8 N'
    have hfm := fmod_b pk' (n := es.length) (by omega)
    have hfd : 0 ≤ pk'.fdiv es.length ∧ pk'.fdiv es.length < 5040 := by
      rw [fdiv_ediv _ _ (by omega)]
      have h8 := Int.ediv_nonneg hP6 (show (0 : Int) ≤ es.length by omega)
      have h7 := Int.ediv_le_self (es.length : Int) hP6
      omega
    refine rExecs_any ?_
    k_steps
    generalize pk'.fmod es.length = go at *
    obtain ⟨gi, rfl⟩ := Int.eq_ofNat_of_zero_le hfm.1
    have hgl : gi < es.length := by omega
    have hgi : ((gi : Int)).toNat = gi := by omega
    refine rExecs_any ?_
    k_steps
    generalize pk'.fdiv es.length = pk2 at *
    refine rExecs_any ?_
    k_steps
    rw [hgi] at *
    have hpl := run_place (b := b0.cps.toList) hP2 hgl
    have hro := row_out (b := b0.cps.toList) hP2 hgl
    rw [← hcs] at hpl hro
    generalize (cs9.getD gi (0, 0)).2 = pl at *
    have hml := mem_le_sum hro.2.1
    dsimp only
    refine rExecs_cons (rAssign (rCall ?_))
    walk1
    refine rCallWith rfl (rSpliced_any (bm_if_false rfl ?_))
    walk1
    refine rSpliced_any (bm_if_false rfl ?_)
    walk1
    refine rSpliced_any (bm_if_false rfl ?_)
    walk1
    rename News g L' _ _ => Nx
    rename Fr g L' _ _ => Fx
    refine rSpliced_nil (rKeep (K := hd.heap_39 w.params) (by k_is) (X'.keeps Fx.keep) ?_)
    refine without_spec ra rr ws rs es cs9 mm kk gi _ hP1 (by omega) hcl hgl _ _ _ _ _ _ _ _ _ _ _ _ _ _ _ _ B' Fx X' Nx T' rfl (by show dp + 1 + 4 < _; omega) (by show un + 3 + 8 * 4 < _; omega) ⟨hm2, hm1, hpX⟩ ?_
    clear Fx Nx
    intro D8 vs8 nn8 h8 tk8 hi8 F8 N8
    rw [hcs] at hi8
    rw [← hcs] at hi8
    generalize withoutP es cs9 gi = es8 at *
    dsimp only
    k_steps
    refine rExecs_any ?_
    k_steps
    have hbn : b0.cps.toList.length = b0.length := by simp [Str.length]
    have hpl2 : pl + 1 ≤ (sn.length : Int) := by rw [hsl, ← hbn]; omega
    have hsn : (⟨(insP 128 (-1) b0.cps.toList es8).toArray⟩ : Str) = Txt.slice sn none (some pl) ++ Txt.slice sn (some (pl + 1)) none := by
      refine ext_toList ?_
      rw [Str.cps_append, Array.toList_append, slice_take sn pl hpl.1 (by omega), slice_drop sn (pl + 1) (by omega) hpl2, hP5]
      show insP 128 (-1) b0.cps.toList es8 = _
      rw [hro.1, erase_parts, show (pl + 1).toNat = pl.toNat + 1 by omega]
    dsimp only
    refine rExecs_cons (rIf (rTest (rCall ?_)))
    walk1
    refine rCallWith rfl (rSpliced_any (bm_if_false rfl ?_))
    walk1
    refine rSpliced_any (bm_if_false rfl ?_)
    walk1
    rename News g L' _ _ => Nx
    rename Fr g L' _ _ => Fx
    refine rSpliced_nil (rKeep (K := hd.heap_39 w.params) (by k_is) (X'.keeps Fx.keep) ?_)
    refine read_spec b0 D8 vs8 es8 nn8 _ hi8 (fun d hdm => ⟨hro.2.1 d hdm, by have := hml d hdm; omega⟩) (by omega) (by omega) (by omega) _ _ _ _ _ _ _ _ _ _ _ _ _ _ _ _ B' Fx X' Nx T' rfl (by show dp + 1 + 9 < _; omega) (by show un + 3 + 8 * 9 < _; omega) (.head _) ?_
    clear Fx Nx
    intro t7 h7 tk7 F7 N7
    dsimp only
    k_steps
    · exfalso
      rename (_ != _) = true => hne
      rw [hsn] at hne
      simp at hne
    · refine rExecs_nil ?_
      dsimp only
      refine rExecs_nil ?_
      dsimp only [WPost]
      rename News g L' _ _ => Nx
      rename Fr g L' _ _ => Fx
      refine w_end ⟨D8, vs8, es8, nn8, Txt.slice sn none (some pl) ++ Txt.slice sn (some (pl + 1)) none, pk2, _, _⟩ Fx Nx ?_ (by kst_all) ⟨hi8, hro.2.1, by dsimp only; omega, by dsimp only; omega, by rw [← hsn], hfd.1, hfd.2⟩ (by dsimp only; omega)
      intro p hp
      rcases List.mem_cons.mp hp with rfl | hp
      · exact .head _
      · exact .tail _ (hm3 p hp)
end Mine
end

section
open PySem PySem.W PyProof.Rows PySem.Calls
set_option maxRecDepth 100000
set_option maxHeartbeats 4000000
set_option linter.unusedVariables false
namespace Mine
theorem call_fullR {prog : Program} {w : World} {A : Around} {Q : Flow → Shared → Prop} {s : Shared} {name : Str} {params : Arguments} {body : List Stmt} {scope : Scope}
    {dV kV pm cd doc : Value} {a : Addr} {o : Obj} {args : Args} {binds : List (Str × Value)}
    (hroom : A.depth < recursionLimit) (ho : s.heap.get? a = some o) (hdata : o.data = .func { docDef name params body scope pm cd doc with defaults := dV, kwdefaults := kV }) (hlim : s.heap.NoLimit) (hcd : s.heap.CodeRec cd name)
    (hbind : BindsTo s { docDef name params body scope pm cd doc with defaults := dV, kwdefaults := kV } args binds.reverse)
    (hloc : ∀ x ∈ binds.reverse, scope.names.lookup x.1 = some .local)
    (h : ∀ h₁ tk, Fr s.heap s.heap.objs.size h₁ (kstB (fun _ => none) binds) →
      wpR (model prog w) (A.deeper (envOf name scope s.heap.objs.size a cd)) (execs body (envOf name scope s.heap.objs.size a cd))
        (fun f s' => Q (.ret (match f with | .ret v => v | _ => .none)) s') { s with heap := h₁, toks := tk })
    (hco : scope.isCoroutine = false := by rfl) (hgen : scope.isGenerator = false := by rfl) (hk : scope.kind = .function := by rfl)
    (hcell : ∀ x ∈ scope.names, x.2 ≠ .cell := by decide) : codeR (model prog w) A (.call (.ref a) args) Q s := by
  refine codeR_call_function hroom ho hdata hco hgen rfl hcd (hbind _ _ _ _ ?_)
  refine wpAny_newFunctionEnv hcell hloc (fun h₁ hns hsb => ⟨hlim.fresh _ hsb, codeR_func ?_⟩) hk
  have hk₁ : ∀ b o, s.heap.get? b = some o → h₁.get? b = some o := fun b o e => hsb.extBut b o (Nat.ne_of_lt (Heap.lt_size e)) (Heap.get?_push_of_some _ e)
  rw [List.reverse_reverse, lookup_kstB] at hns
  exact h h₁ _ ⟨hns, hk₁, Nat.le_refl _⟩
theorem good_true {c : ClaimW} {cl : Str → Option Addr} {mean : ExcName → Option Value} {args : List WData} {s₁ s' : Shared} (hk : ∀ b o, s₁.heap.get? b = some o → s'.heap.get? b = some o) (hg : s'.gens = #[]) (hn : ∀ cls, c.raises args cls = false) (hp : c.post args (.bool true) args = true) (hos : s'.os = s₁.os) :
    GoodWG c cl mean args s₁ (.ok (.ret (.bool true))) s' :=
  GoodW.toG ⟨.inl ⟨_, _, _, rfl, hn, .bool true, hp, unshared_nil⟩, hk, hos, hg⟩

theorem rowP_nonneg (ds : List Int) : ∀ d ∈ rowP ds, 0 ≤ d ∧ d ≤ 8999 := by
  intro d hd
  unfold rowP at hd
  obtain ⟨c, _, rfl⟩ := List.mem_map.mp hd
  have hm : 0 < md c ∧ md c ≤ 9000 := by unfold md; split <;> (try split) <;> omega
  have := fmod_b (c.fdiv 4) hm.1
  omega
theorem sum_le_len {l : List Int} {k : Int} (h : ∀ d ∈ l, d ≤ k) : l.sum ≤ k * l.length := by
  induction l with
  | nil => simp
  | cons x l ih =>
    rw [List.sum_cons, List.length_cons]
    have h1 := h x (.head _)
    have h2 := ih fun d hd => h d (.tail _ hd)
    rw [Int.natCast_add, Int.mul_add]
    omega
theorem row_facts {ds : List Int} (h : ds.length ≤ 4) : (∀ d ∈ rowP ds ++ ([30, 0, 7] : List Int), 0 ≤ d) ∧ (rowP ds ++ ([30, 0, 7] : List Int)).length ≤ 7 ∧ (rowP ds ++ ([30, 0, 7] : List Int)).sum + (rowP ds ++ ([30, 0, 7] : List Int)).length ≤ 40000 := by
  have hr := rowP_nonneg ds
  have hl : (rowP ds).length ≤ 4 := by
    unfold rowP; rw [List.length_map]; exact Nat.le_trans (List.length_filter_le _ _) h
  have hs := sum_le_len (l := rowP ds) (k := 8999) fun d hd => (hr d hd).2
  refine ⟨?_, ?_, ?_⟩
  · intro d hd
    rcases List.mem_append.mp hd with hd | hd
    · exact (hr d hd).1
    · simp at hd; omega
  · simp only [List.length_append, List.length_cons, List.length_nil]; omega
  · simp only [List.length_append, List.length_cons, List.length_nil, List.sum_append, List.sum_cons, List.sum_nil]; omega
theorem plain_facts {ds : List Int} (h : ds.length ≤ 4) : (∀ x ∈ ((⟨((sel ds).map sg).toArray⟩ : Str)).cps.toList, x < 128) ∧ ((⟨((sel ds).map sg).toArray⟩ : Str)).length ≤ 4 := by
  refine ⟨?_, ?_⟩
  · intro x hx
    have hx' : x ∈ (sel ds).map sg := by simpa using hx
    obtain ⟨c, _, rfl⟩ := List.mem_map.mp hx'
    have := fmod_b (c.fdiv 4) (n := 128) (by omega)
    unfold sg; omega
  · have : (sel ds).length ≤ ds.length := List.length_filter_le _ _
    show (((sel ds).map sg).toArray).size ≤ 4
    simp only [List.size_toArray, List.length_map]; omega

theorem fin_holds : PySem.Challenge.rw_mq0023_01.Holds := Mine.hd (by
  k_fill
  intro w s₀ s₁ mg mb G Y fa o pm cd doc dV kV ho hdd hcd hD hmg hg args vals as hpre hlay hrd hwl hlo
  have KX := kIn_of Y
  refine Ground.open G ?_
  intro T B D TE TW
  wrow_args hpre hlay hrd hwl hlo
  rename s₁.heap.IsList _ _ => hL
  rename IntsAre _ _ => hI
  rename ¬ _ < _ => hc63
  rename List Value => vs
  rename List Int => zs
  rename Addr => la
  have gt : ∀ s', (∀ b o, s₁.heap.get? b = some o → s'.heap.get? b = some o) → s'.gens = #[] → s'.os = s₁.os → GoodWG Challenge.rw_mq0023_01.row.claim (classAt s₀.heap) (ExcName.means s₀.heap) [ofPy (PyData.list (List.map PyData.int zs))] s₁ (Except.ok (Flow.ret (Value.bool true))) s' := by
    intro s' h1 h2 h3
    refine good_true h1 h2 (raisesW_false ?_) ?_ h3
    · wrow_none_raised
    · wrow_post
  refine ⟨?_, gt _ (fun _ _ e => e) hg rfl⟩
  refine wpR_call ?_
  have he := Dflts.none hD rfl
  subst he
  refine call_fullR (binds := [(Str.ofString "script", .ref la)]) (by decide) ho hdd (Top.nolimit T) hcd (BindsTo.of_eq rfl) (locs rfl) fun h₁ tk F => ?_
  have K0 : Below callerA s₁.heap [] s₁.heap := below_caller _
  have N0 := (News.nil : News _ _ _ []).at F
  dsimp only
  k_with_none
  refine rExecs_any ?_
  k_steps
  dsimp only
  clear hcd hD hdd ho G Y
  refine rExecs_cons (rReturn (rCall ?_))
  walk1
  k_with "call ref" => refine Stop.mk ?_
  refine rCallWith rfl (rSpliced_any (bm_if_false rfl ?_))
  k_steps
  refine Stop.out ?_
  clear hmg B D TE TW
  rename News _ _ _ _ => N4
  rename Fr _ _ _ _ => F4
  rename IntsAre _ (List.take 4 zs) => hI4
  rename List Value => ws
  rename Addr => dr
  have h4 : (zs.take 4).length ≤ 4 := by rw [List.length_take]; omega
  generalize zs.take 4 = ds at *
  refine plain_spec dr ws ds 0 hI4 h4 _ _ _ _ _ _ _ _ _ _ _ _ _ _ _ _ _ _ K0 F4 KX N4 T rfl (by decide +kernel) (by decide +kernel) (.head _) ?_
  intro t5 h5 tk5 F5 N5
  clear F4 N4
  dsimp only
  refine rSpliced_cons (rIfF rfl (rCall ?_))
  walk1
  refine rCallWith rfl (rSpliced_any (bm_if_false rfl ?_))
  walk1
  rename News _ _ _ _ => N4
  rename Fr _ _ _ _ => F4
  refine rSpliced_nil (rKeep (K := hd.heap_39 w.params) (by k_is) (KX.keeps F4.keep) ?_)
  refine row_spec dr ws ds 0 hI4 h4 _ _ _ _ _ _ _ _ _ _ _ _ _ _ _ _ K0 F4 KX N4 T rfl (by decide +kernel) (by decide +kernel) (.head _) ?_
  clear F4 N4
  intro D6 vs6 nn6 h6 tk6 hi6 F6 N6
  dsimp only
  refine rSpliced_any (bm_if_false rfl ?_)
  k_with_none
  k_steps
  rename News _ _ _ _ => N4
  rename Fr _ _ _ _ => F4
  obtain ⟨rf1, rf2, rf3⟩ := row_facts h4
  obtain ⟨pf1, pf2⟩ := plain_facts h4
  refine rSpliced_nil (rKeep (K := hd.heap_39 w.params) (by k_is) (KX.keeps F4.keep) ?_)
  refine emptied_spec ⟨((sel ds).map sg).toArray⟩ D6 vs6 (rowP ds ++ ([30, 0, 7] : List Int)) nn6 ((ds.sum + 4).fmod 5040) t5 _ hi6 pf1 pf2 rf1 rf2 rf3 (fmod_b _ (by omega)) _ _ _ _ _ _ _ _ _ _ _ _ _ _ _ _ K0 F4 KX N4 T rfl (by decide +kernel) (by decide +kernel) (.head _) ?_
  intro t7 h7 tk7 F7 N7
  exact ⟨_, rfl, gt _ F7.keep hg rfl⟩)
end Mine
end

set_option maxRecDepth 100000 in
theorem PySem.Challenge.cw_mq0023_01_holds : PySem.Challenge.rw_mq0023_01.Holds :=
  Mine.fin_holds
