import PyProof.Rows.All
import Wide.All
import OpenK.AllK
import Wide.FinOn
import Lean
import PySem.Challenge.RW_yt0005_01
set_option Elab.async false
section
open PySem PySem.W PyProof.Rows
set_option maxRecDepth 100000
set_option maxHeartbeats 8000000
namespace Mine
open_top hd for PySem.Challenge.rw_yt0005_01
end Mine
end
section
open PySem PySem.W PySem.Calls PyProof.Rows PySem.Spec
set_option maxRecDepth 100000
set_option maxHeartbeats 8000000
namespace Mine
def Hold (P : Prop) : Prop := P
theorem Hold.out {P : Prop} (h : Hold P) : P := h
theorem Hold.mk {P : Prop} (h : P) : Hold P := h
theorem fr_norm {g h : Heap} {L : Addr} {m : Str → Option Value} (ps : List (Str × Value)) (F : Fr g L h m) (h1 : ∀ p ∈ ps, m p.1 = some p.2) : Fr g L h (kstB m ps) := by
  have e : kstB m ps = m := by
    funext z
    exact kstB_eq h1 fun _ => rfl
  rw [e]
  exact F
section
variable {σ : Type} {g : Heap} {L : Addr}
def CutJ (g : Heap) (L : Addr) (s : Shared) (Led : σ → List (Addr × Obj)) (ps : σ → List (Str × Value)) (P : σ → Prop) (s' : Shared) : Prop :=
  ∃ (c : σ) (m' : Str → Option Value) (h : Heap) (tk : Nat) (news' : List (Addr × Obj)), s' = { s with heap := h, toks := tk } ∧ Fr g L h m' ∧ News g L h news' ∧ (∀ p ∈ Led c, p ∈ news') ∧ (∀ p ∈ ps c, m' p.1 = some p.2) ∧ P c
theorem cut_end {s : Shared} {Led : σ → List (Addr × Obj)} {ps : σ → List (Str × Value)} {P : σ → Prop} {m' : Str → Option Value} {h : Heap} {tk : Nat} {news' : List (Addr × Obj)} (c : σ)
    (F : Fr g L h m') (N : News g L h news') (hn : ∀ p ∈ Led c, p ∈ news') (hk : ∀ p ∈ ps c, m' p.1 = some p.2) (hp : P c) :
    CutJ g L s Led ps P { s with heap := h, toks := tk } := ⟨c, m', h, tk, news', rfl, F, N, hn, hk, hp⟩
theorem cut_next {M : Model} {A : Around} {t : Sem Flow} {Q : Flow → Shared → Prop} {E : Value → Shared → Prop} {s : Shared} {m₀ : Str → Option Value} (Led : σ → List (Addr × Obj)) (ps : σ → List (Str × Value)) (P : σ → Prop)
    (_F : Fr g L s.heap m₀)
    (h1 : wpAny M A t (fun f s' => match f with | .next => CutJ g L s Led ps P s' | f => Q f s') E s)
    (h2 : ∀ (c : σ) (u : Str → Option Value) (h : Heap) (tk : Nat), P c → Fr g L h (kstB u (ps c)) → News g L h (Led c) → Q .next { s with heap := h, toks := tk }) :
    wpAny M A t Q E s := by
  refine wpAny_mono h1 (fun f s' hf => ?_) fun _ _ e => e
  cases f with
  | next =>
    obtain ⟨c, m', h, tk, news', rfl, F, N, hn, hk, hp⟩ := hf
    exact h2 c m' h tk hp (fr_norm _ F hk) fun p hp => N p (hn p hp)
  | brk => exact hf
  | cont => exact hf
  | ret v => exact hf
def LpEnd (g : Heap) (L : Addr) (s : Shared) (Led : σ → List (Addr × Obj)) (ps : σ → List (Str × Value)) (P : σ → Prop) (μ : σ → Nat) (n : Nat) (s₂ : Shared) : Prop :=
  ∃ (c' : σ) (h' : Heap) (tk : Nat) (m' : Str → Option Value) (news' : List (Addr × Obj)), s₂ = { s with heap := h', toks := tk } ∧ Fr g L h' m' ∧ News g L h' news' ∧ (∀ p ∈ Led c', p ∈ news') ∧ (∀ p ∈ ps c', m' p.1 = some p.2) ∧ P c' ∧ μ c' < n
def LpPost (g : Heap) (L : Addr) (s : Shared) (Led : σ → List (Addr × Obj)) (ps : σ → List (Str × Value)) (P : σ → Prop) (μ : σ → Nat) (Q : Flow → Shared → Prop) (n : Nat) (f : Flow) (s₂ : Shared) : Prop :=
  match f with
  | .ret v => Q (.ret v) s₂
  | .brk => Q .next s₂
  | _ => LpEnd g L s Led ps P μ n s₂
theorem lp_end {s : Shared} {Led : σ → List (Addr × Obj)} {ps : σ → List (Str × Value)} {P : σ → Prop} {μ : σ → Nat} {n : Nat} {m' : Str → Option Value} {h' : Heap} {tk : Nat} {news' : List (Addr × Obj)} (c' : σ)
    (F : Fr g L h' m') (N : News g L h' news') (hn : ∀ p ∈ Led c', p ∈ news') (hk : ∀ p ∈ ps c', m' p.1 = some p.2) (hp : P c') (hm : μ c' < n) :
    LpEnd g L s Led ps P μ n { s with heap := h', toks := tk } := ⟨c', h', tk, m', news', rfl, F, N, hn, hk, hp, hm⟩
theorem lp_ret {s : Shared} {Led : σ → List (Addr × Obj)} {ps : σ → List (Str × Value)} {P : σ → Prop} {μ : σ → Nat} {Q : Flow → Shared → Prop} {n : Nat} {v : Value} {s₂ : Shared} (h : Q (.ret v) s₂) : LpPost g L s Led ps P μ Q n (.ret v) s₂ := h
theorem lp_brk {s : Shared} {Led : σ → List (Addr × Obj)} {ps : σ → List (Str × Value)} {P : σ → Prop} {μ : σ → Nat} {Q : Flow → Shared → Prop} {n : Nat} {s₂ : Shared} (h : Q .next s₂) : LpPost g L s Led ps P μ Q n .brk s₂ := h
theorem lp_while {prog : Program} {w : World} {A : Around} {E : Value → Shared → Prop} {Q : Flow → Shared → Prop} {s : Shared} {env : Env} {test : Expr} {body : List Stmt} {pos : Pos} {m₀ : Str → Option Value} {news : List (Addr × Obj)}
    (Led : σ → List (Addr × Obj)) (ps : σ → List (Str × Value)) (P : σ → Prop) (μ : σ → Nat) (c₀ : σ)
    (F : Fr g L s.heap m₀) (N : News g L s.heap news) (hn : ∀ p ∈ Led c₀, p ∈ news) (hk : ∀ p ∈ ps c₀, m₀ p.1 = some p.2) (hp : P c₀)
    (turn : ∀ (c : σ) (u : Str → Option Value) h tk, P c → Fr g L h (kstB u (ps c)) → News g L h (Led c) →
      wpAny (model prog w) A (isTrue test env (eval test env)) (fun b s₂ =>
        if b = true then wpAny (model prog w) A (execs body env) (LpPost g L s Led ps P μ Q (μ c)) E s₂ else Q .next s₂) E { s with heap := h, toks := tk })
    (hE : PassesOwn (model prog w) A env E := by passes_own) :
    wpAny (model prog w) A (exec (.While test body [] pos) env) Q E s := by
  refine While_inv2 (fun n m nx => ∃ c : σ, nx = Led c ∧ μ c = n ∧ (∀ p ∈ ps c, m p.1 = some p.2) ∧ P c) F (fun p hp => N p (hn p hp)) ⟨c₀, rfl, rfl, hk, hp⟩ ?_ hE
  rintro n m₁ nx h tk F₁ N₁ ⟨c, hnx, hsz, h1, hp'⟩
  rw [hnx] at N₁
  rw [← hsz]
  refine wpAny_mono (turn c m₁ h tk hp' (fr_norm _ F₁ h1) N₁) (fun b s₂ p => ?_) fun _ _ x => x
  cases b with
  | false => simpa using p
  | true =>
    simp only [if_true] at p ⊢
    refine wpAny_mono p (fun f s₃ q => ?_) fun _ _ x => x
    have back : LpEnd g L s Led ps P μ (μ c) s₃ → WhileStep2 g L s (fun n m nx => ∃ c : σ, nx = Led c ∧ μ c = n ∧ (∀ p ∈ ps c, m p.1 = some p.2) ∧ P c) Q (μ c) .next s₃ := by
      rintro ⟨c', h', tk', m', news', rfl, F', N', hn', hk', hp9, hm9⟩
      exact ⟨h', tk', m', Led c', μ c', rfl, F', fun p hp => N' p (hn' p hp), hm9, c', rfl, rfl, hk', hp9⟩
    cases f with
    | ret v => exact q
    | brk => exact q
    | next => exact back q
    | cont => exact back q
end
section
variable {prog : Program} {w : World} {A : Around} {E : Value → Shared → Prop} {Q : Flow → Shared → Prop} {s : Shared} {env : Env} {g : Heap} {x : Str} {px : Pos} {body orelse : List Stmt} {σ : Type}
abbrev ElseAt (prog : Program) (w : World) (A : Around) (env : Env) (x : Str) (px : Pos) (body orelse : List Stmt) (Q : Flow → Shared → Prop) (E : Value → Shared → Prop) (it : Value) (s₂ : Shared) : Prop :=
  codeAny (model prog w) A (.forLoop (.Name x px) it body orelse env) (fun r s' => match r with | .ok f => Q f s' | .error e => cameBackBy (model prog w) A env E e s') s₂
theorem lp_for {iter : Expr} {pos : Pos}
    (h : wpAny (model prog w) A (eval iter env) (fun xv s₁ => wpAny (model prog w) A (pyIter xv) (fun it s₂ => ElseAt prog w A env x px body orelse Q E it s₂) E s₁) E s) (hs : ∀ x, foldedSetIterable iter env x = pure x) :
    wpAny (model prog w) A (exec (.For (.Name x px) iter body orelse pos) env) Q E s := wpAny_For h hs
def LfEnd (g : Heap) (L : Addr) (Led : σ → List (Addr × Obj)) (ps : σ → List (Str × Value)) (P : σ → Prop) (own : List (Addr × Obj)) (s₁ s₂ : Shared) : Prop :=
  ∃ (c' : σ) (h' : Heap) (tk : Nat) (m' : Str → Option Value) (news' : List (Addr × Obj)), s₂ = { s₁ with heap := h', toks := tk } ∧ Fr g L h' m' ∧ News g L h' news' ∧ (∀ p ∈ Led c', p ∈ news') ∧ (∀ p ∈ own, p ∈ news') ∧ (∀ p ∈ ps c', m' p.1 = some p.2) ∧ P c'
def LfPost (g : Heap) (L : Addr) (Led : σ → List (Addr × Obj)) (ps : σ → List (Str × Value)) (P : σ → Prop) (own : List (Addr × Obj)) (s₁ : Shared) (Q : Flow → Shared → Prop) (f : Flow) (s₂ : Shared) : Prop :=
  match f with
  | .ret v => Q (.ret v) s₂
  | .brk => Q .next s₂
  | _ => LfEnd g L Led ps P own s₁ s₂
theorem lf_end {L : Addr} {Led : σ → List (Addr × Obj)} {ps : σ → List (Str × Value)} {P : σ → Prop} {own news' : List (Addr × Obj)} {s₁ : Shared} {h' : Heap} {tk : Nat} {m' : Str → Option Value} (c' : σ)
    (F : Fr g L h' m') (N : News g L h' news') (hn : ∀ p ∈ Led c', p ∈ news') (ho : ∀ p ∈ own, p ∈ news') (hk : ∀ p ∈ ps c', m' p.1 = some p.2) (hp : P c') :
    LfEnd g L Led ps P own s₁ { s₁ with heap := h', toks := tk } := ⟨c', h', tk, m', news', rfl, F, N, hn, ho, hk, hp⟩
theorem lf_ret {g : Heap} {L : Addr} {Led : σ → List (Addr × Obj)} {ps : σ → List (Str × Value)} {P : σ → Prop} {own : List (Addr × Obj)} {s₁ s₂ : Shared} {Q : Flow → Shared → Prop} {v : Value} (h : Q (.ret v) s₂) : LfPost g L Led ps P own s₁ Q (.ret v) s₂ := h
theorem lf_brk {g : Heap} {L : Addr} {Led : σ → List (Addr × Obj)} {ps : σ → List (Str × Value)} {P : σ → Prop} {own : List (Addr × Obj)} {s₁ s₂ : Shared} {Q : Flow → Shared → Prop} (h : Q .next s₂) : LfPost g L Led ps P own s₁ Q .brk s₂ := h
theorem lf_walk {I : Addr} {fp wr : List Addr} {n : Nat} {Pv : Nat → Value → Prop} {St : Nat → Heap → Prop} {m : Str → Option Value} {adr : List Addr}
    (W : Walks prog w A I fp wr n Pv St) (hx : env.kindOf x = some .local)
    (hp : (env.scope.kind == .class || (env.scope.kind == .module && env.locals != env.globals)) = false)
    (hLw : env.locals ∉ wr) (hwr : ∀ b ∈ wr, g.get? b = none) (Led : σ → List (Addr × Obj)) (ps : σ → List (Str × Value)) (P : Nat → σ → Prop) (c₀ : σ)
    (hadr : ∀ c, (Led c).map (·.1) = adr) (hnw : ∀ b ∈ adr, b ∉ wr) (hLa : env.locals ∉ fp)
    (hfp : ∀ b ∈ fp, b ∈ wr ∨ (∃ o, ∀ c, (b, o) ∈ Led c) ∨ ∃ o, g.get? b = some o)
    (hst : St 0 s.heap) (F : Fr g env.locals s.heap m) (N : News g env.locals s.heap (Led c₀)) (hk : ∀ p ∈ ps c₀, m p.1 = some p.2) (h0 : P 0 c₀)
    (turn : ∀ i c v u h tk own, i < n → Pv i v → OwnOff own adr → P i c → Fr g env.locals h (kstB u ((x, v) :: ps c)) → News g env.locals h (Led c ++ own) →
      wpAny (model prog w) A (execs body env) (LfPost g env.locals Led ps (P (i + 1)) own { s with heap := h, toks := tk } Q) E { s with heap := h, toks := tk })
    (done : ∀ c u h tk, P n c → Fr g env.locals h (kstB u (ps c)) → News g env.locals h (Led c) → wpAny (model prog w) A (execs orelse env) Q E { s with heap := h, toks := tk })
    (hE : PassesOwn (model prog w) A env E) : ElseAt prog w A env x px body orelse Q E (.ref I) s := by
  have old : ∀ b o, g.get? b = some o → b ∉ wr := fun b o e hb => by rw [hwr b hb] at e; cases e
  have hnw' : ∀ c, ∀ p ∈ Led c, p.1 ∉ wr := fun c p hp => hnw p.1 (by rw [← hadr c]; exact List.mem_map_of_mem hp)
  refine codeAny_forLoop (fun k s' => ∃ h' tk m' c i, s' = { s with heap := h', toks := tk } ∧ St i h' ∧ Fr g env.locals h' m' ∧ News g env.locals h' (Led c) ∧ (∀ p ∈ ps c, m' p.1 = some p.2) ∧ P i c ∧ i ≤ n ∧ k = n + 1 - i) ?_ (n + 1)
    ⟨s.heap, s.toks, m, c₀, 0, rfl, hst, F, N, hk, h0, Nat.zero_le _, rfl⟩
  rintro k s' ⟨h', tk, m', c, i, rfl, hst', F', N', hk', hP', hi, rfl⟩
  have keeps : ∀ h₁ : Heap, (∀ b o, b ∉ wr → h'.get? b = some o → h₁.get? b = some o) → Fr g env.locals h₁ m' ∧ News g env.locals h₁ (Led c) := fun h₁ hq =>
    ⟨⟨F'.ns.at' fun o e => hq _ o hLw e, fun b o e => hq b o (old b o e) (F'.keep b o e), F'.above⟩, fun p hp => ⟨hq _ _ (hnw' c p hp) (N' p hp).1, (N' p hp).2⟩⟩
  by_cases hlt : i < n
  · refine W.item i _ _ _ hlt hst' fun v h₁ tk₁ hv hst₁ hk₁ => ?_
    obtain ⟨F₁, N₁⟩ := keeps h₁ hk₁
    refine wpAny_assign_Name (wpAny_storeName_local hx F₁.ns (fun h₂ hn₂ hs₂ => ?_) hp)
    have F₂ := F₁.set hn₂ hs₂
    have Nown : News g env.locals h₂ (ownOf g wr h₂) := news_ownOf hLw
    have N₂ : News g env.locals h₂ (Led c) := N₁.set hs₂
    have hoff : OwnOff (ownOf g wr h₂) adr := fun p hp b hb e => hnw b hb (e ▸ ownOf_sub p hp)
    have F₃ : Fr g env.locals h₂ (kstB m' ((x, v) :: ps c)) := by
      have e : (fun y => if y = x then some v else m' y) = kstB m' ((x, v) :: ps c) := by
        funext z
        show (if z = x then some v else m' z) = (if z = x then some v else kstB m' (ps c) z)
        rw [show kstB m' (ps c) z = m' z from kstB_eq hk' fun _ => rfl]
      rw [← e]
      exact F₂
    refine wpAny_mono (wpAny_passesOwn hE (turn i c v m' h₂ _ (ownOf g wr h₂) hlt hv hoff hP' F₃ (N₂.append Nown))) (fun f s₃ h₃ => ?_) fun _ _ e => e
    have back : ∀ tk₀, LfEnd g env.locals Led ps (P (i + 1)) (ownOf g wr h₂) { s with heap := h₂, toks := tk₀ } s₃ →
        ∃ m, m < n + 1 - i ∧ ∃ h' tk m' c i, s₃ = { s with heap := h', toks := tk } ∧ St i h' ∧ Fr g env.locals h' m' ∧ News g env.locals h' (Led c) ∧ (∀ p ∈ ps c, m' p.1 = some p.2) ∧ P i c ∧ i ≤ n ∧ m = n + 1 - i := by
      rintro tk₀ ⟨c₄, h₄, tk₄, m₄, news₄, rfl, F₄, N₄, hn₄, ho₄, hk₄, hP₄⟩
      refine ⟨n + 1 - (i + 1), by omega, h₄, tk₄, m₄, c₄, i + 1, rfl, ?_, F₄, fun p hp => N₄ p (hn₄ p hp), hk₄, hP₄, hlt, rfl⟩
      refine W.frame _ _ _ hst₁ fun b hb o e => ?_
      have e₂ : h₂.get? b = some o := (hs₂.2 b fun q => hLa (q ▸ hb)).trans e
      rcases hfp b hb with hw | ⟨o', ho'⟩ | ⟨o', ho'⟩
      · exact (N₄ _ (ho₄ _ (mem_ownOf hw (hwr b hw) e₂))).1
      · have e₃ := (N₂ _ (ho' c)).1
        rw [e₂] at e₃
        cases e₃
        exact (N₄ _ (hn₄ _ (ho' c₄))).1
      · have e₃ := F₂.keep b o' ho'
        rw [e₂] at e₃
        cases e₃
        exact F₄.keep b _ ho'
    cases f with
    | ret v => exact h₃
    | brk => exact h₃
    | cont => exact back _ h₃
    | next => exact back _ h₃
  · have hin : i = n := by omega
    subst hin
    refine W.done _ _ _ hst' fun h₁ tk₁ hk₁ => ?_
    obtain ⟨F₁, N₁⟩ := keeps h₁ hk₁
    exact wpAny_mono (wpAny_passesOwn hE (done c m' h₁ tk₁ hP' (fr_norm _ F₁ hk') N₁)) (fun f s₃ h₃ => h₃) fun _ _ e => e
theorem lf_range {r : Addr} {a₀ b₀ c₀' : Int} {t₀ u₀ v₀ : Tok} {n : Nat} {m₀ : Str → Option Value} {news : List (Addr × Obj)} {adr : List Addr} (Led : σ → List (Addr × Obj)) (ps : σ → List (Str × Value)) (P : Nat → σ → Prop) (c₀ : σ)
    (hadr : ∀ c, (Led c).map (·.1) = adr)
    (hh : A.handled = none) (hr : IsRange s.heap r a₀ b₀ c₀' t₀ u₀ v₀) (hsmall : Builtin.Range.small a₀ b₀ c₀' = true) (hn : Builtin.Range.rangeSize a₀ b₀ c₀' = (n : Int))
    (hx : env.kindOf x = some .local) (hp : (env.scope.kind == .class || (env.scope.kind == .module && env.locals != env.globals)) = false)
    (F : Fr g env.locals s.heap m₀) (N : News g env.locals s.heap news) (hl : ∀ p ∈ Led c₀, p ∈ news) (hk : ∀ p ∈ ps c₀, m₀ p.1 = some p.2) (h0 : P 0 c₀)
    (turn : ∀ (i : Nat) c t u h tk own, i < n → OwnOff own adr → P i c → Fr g env.locals h (kstB u ((x, .int (a₀ + i * c₀') t) :: ps c)) → News g env.locals h (Led c ++ own) →
      wpAny (model prog w) A (execs body env) (LfPost g env.locals Led ps (P (i + 1)) own { s with heap := h, toks := tk } Q) E { s with heap := h, toks := tk })
    (done : ∀ c u h tk, P n c → Fr g env.locals h (kstB u (ps c)) → News g env.locals h (Led c) → wpAny (model prog w) A (execs orelse env) Q E { s with heap := h, toks := tk })
    (hE : PassesOwn (model prog w) A env E := by passes_own) :
    wpAny (model prog w) A (pyIter (.ref r)) (fun it s₂ => ElseAt prog w A env x px body orelse Q E it s₂) E s := by
  have N' : News g env.locals s.heap (Led c₀) := fun p hp => N p (hl p hp)
  refine wpAny_pyIter_range hr hsmall ?_
  have W : Walks prog w A s.heap.objs.size [s.heap.objs.size] [s.heap.objs.size] n (fun i v => i < n ∧ ∃ t, v = .int (a₀ + i * c₀') t)
      (fun i h => IsRangeIter h s.heap.objs.size (a₀ + (i : Nat) * c₀') ((n : Int) - (i : Nat)) c₀') := (Walks.range hh _ a₀ c₀' n).bound
  have hL : env.locals ∉ [s.heap.objs.size] := fun hm => absurd F.ns.lt ((List.mem_singleton.mp hm) ▸ Nat.lt_irrefl _)
  refine lf_walk (g := g) W hx hp hL ?_ Led ps P c₀ hadr ?_ hL (fun b hb => .inl hb) (by show IsRangeIter _ _ _ _ _; rw [hn]; simpa using Heap.get?_push_size _ rfl) (F.push _) (fun p hp => ⟨Heap.get?_push_of_some _ (N' p hp).1, (N' p hp).2⟩) hk h0 ?_ done hE
  · intro b hb
    rw [List.mem_singleton.mp hb]
    exact next_is_new F
  · intro b hb hI
    rw [← hadr c₀] at hb
    obtain ⟨p, hp, rfl⟩ := List.mem_map.mp hb
    exact absurd (Heap.lt_size (N' p hp).1) ((List.mem_singleton.mp hI) ▸ Nat.lt_irrefl _)
  · rintro i c v u h tk own hi ⟨_, t, rfl⟩ hoff hP F₁ N₁
    exact turn i c t u h tk own hi hoff hP F₁ N₁
theorem lf_list {l : Addr} {vs : List Value} {ns : List Int} {nn : Nat} {m₀ : Str → Option Value} {news : List (Addr × Obj)} {adr : List Addr} (Led : σ → List (Addr × Obj)) (ps : σ → List (Str × Value)) (P : List Int → σ → Prop) (c₀ : σ)
    (hadr : ∀ c, (Led c).map (·.1) = adr)
    (hh : A.handled = none) (hm : ∀ c, (l, listOf vs.toArray nn) ∈ Led c) (hi : IntsAre vs ns)
    (hx : env.kindOf x = some .local) (hp : (env.scope.kind == .class || (env.scope.kind == .module && env.locals != env.globals)) = false)
    (F : Fr g env.locals s.heap m₀) (N : News g env.locals s.heap news) (hl : ∀ p ∈ Led c₀, p ∈ news) (hk : ∀ p ∈ ps c₀, m₀ p.1 = some p.2) (h0 : P [] c₀)
    (turn : ∀ pre p post c t u h tk own, ns = pre ++ p :: post → OwnOff own adr → P pre c → Fr g env.locals h (kstB u ((x, .int p t) :: ps c)) → News g env.locals h (Led c ++ own) →
      wpAny (model prog w) A (execs body env) (LfPost g env.locals Led ps (P (pre ++ [p])) own { s with heap := h, toks := tk } Q) E { s with heap := h, toks := tk })
    (done : ∀ c u h tk, P ns c → Fr g env.locals h (kstB u (ps c)) → News g env.locals h (Led c) → wpAny (model prog w) A (execs orelse env) Q E { s with heap := h, toks := tk })
    (hE : PassesOwn (model prog w) A env E := by passes_own) :
    wpAny (model prog w) A (pyIter (.ref l)) (fun it s₂ => ElseAt prog w A env x px body orelse Q E it s₂) E s := by
  have N' : News g env.locals s.heap (Led c₀) := fun p hp => N p (hl p hp)
  have hol : s.heap.get? l = some (listOf vs.toArray nn) := (N' _ (hm c₀)).1
  have hls : s.heap.IsList l vs.toArray := ⟨_, hol, rfl, nn, rfl⟩
  have hne : l ≠ s.heap.objs.size := Nat.ne_of_lt (Heap.lt_size hol)
  refine wpAny_pyIter_list hls ?_
  have W := Walks.list (prog := prog) (w := w) hh s.heap.objs.size l hne vs.toArray
  have hlen : vs.toArray.size = ns.length := by simp [hi.length]
  rw [hlen] at W
  have hL : env.locals ∉ [s.heap.objs.size] := fun hm => absurd F.ns.lt ((List.mem_singleton.mp hm) ▸ Nat.lt_irrefl _)
  refine lf_walk (g := g) W hx hp hL ?_ Led ps (fun i => P (ns.take i)) c₀ hadr ?_ ?_ ?_ ⟨⟨_, Heap.get?_push_size _ rfl, rfl, rfl⟩, hls.at fun o e => Heap.get?_push_of_some _ e⟩ (F.push _) (fun p hp => ⟨Heap.get?_push_of_some _ (N' p hp).1, (N' p hp).2⟩) hk (by simpa using h0) ?_ ?_ hE
  · intro b hb
    rw [List.mem_singleton.mp hb]
    exact next_is_new F
  · intro b hb hI
    rw [← hadr c₀] at hb
    obtain ⟨p, hp, rfl⟩ := List.mem_map.mp hb
    exact absurd (Heap.lt_size (N' p hp).1) ((List.mem_singleton.mp hI) ▸ Nat.lt_irrefl _)
  · intro hm'
    rcases List.mem_cons.mp hm' with e | hm'
    · exact absurd F.ns.lt (e ▸ Nat.lt_irrefl _)
    · exact (N' _ (hm c₀)).2.1 ((List.mem_singleton.mp hm').symm)
  · intro b hb
    rcases List.mem_cons.mp hb with e | hb
    · exact .inl (List.mem_singleton.mpr e)
    · exact .inr (.inl ⟨_, fun c => by rw [List.mem_singleton.mp hb]; exact hm c⟩)
  · rintro i c v u h tk own hlt hv hoff hP F₁ N₁
    obtain ⟨t, hx⟩ := hi.get i ns[i] (List.getElem?_eq_getElem hlt)
    have hv' : v = .int ns[i] t := by
      have hP' : vs[i]? = some v := by simpa using hv
      rw [hx] at hP'; exact (Option.some.inj hP').symm
    subst hv'
    have hg : ns[i]? = some ns[i] := List.getElem?_eq_getElem hlt
    have hs : ns.take (i + 1) = ns.take i ++ [ns[i]] := by rw [List.take_add_one, hg]; rfl
    have e : ns = ns.take i ++ ns[i] :: ns.drop (i + 1) := by
      have ht := List.take_append_drop (i + 1) ns
      rw [hs, List.append_assoc] at ht
      exact ht.symm
    rw [hs]
    exact turn _ _ _ c t u h tk own e hoff hP F₁ N₁
  · intro c u h tk hP F₁ N₁
    rw [List.take_length] at hP
    exact done c u h tk hP F₁ N₁
theorem lf_text {xt : PySem.Str} {tx : Tok} {m₀ : Str → Option Value} {news : List (Addr × Obj)} {adr : List Addr} (Led : σ → List (Addr × Obj)) (ps : σ → List (Str × Value)) (P : List Int → σ → Prop) (c₀ : σ)
    (hadr : ∀ c, (Led c).map (·.1) = adr)
    (hh : A.handled = none)
    (hx : env.kindOf x = some .local) (hp : (env.scope.kind == .class || (env.scope.kind == .module && env.locals != env.globals)) = false)
    (F : Fr g env.locals s.heap m₀) (N : News g env.locals s.heap news) (hl : ∀ p ∈ Led c₀, p ∈ news) (hk : ∀ p ∈ ps c₀, m₀ p.1 = some p.2) (h0 : P [] c₀)
    (turn : ∀ (pre post : List Int) (d : Nat) c t u h tk own, KStt.codes xt = pre ++ (d : Int) :: post → OwnOff own adr → P pre c → Fr g env.locals h (kstB u ((x, .str ⟨#[d]⟩ t) :: ps c)) → News g env.locals h (Led c ++ own) →
      wpAny (model prog w) A (execs body env) (LfPost g env.locals Led ps (P (pre ++ [(d : Int)])) own { s with heap := h, toks := tk } Q) E { s with heap := h, toks := tk })
    (done : ∀ c u h tk, P (KStt.codes xt) c → Fr g env.locals h (kstB u (ps c)) → News g env.locals h (Led c) → wpAny (model prog w) A (execs orelse env) Q E { s with heap := h, toks := tk })
    (hE : PassesOwn (model prog w) A env E := by passes_own) :
    wpAny (model prog w) A (pyIter (.str xt tx)) (fun it s₂ => ElseAt prog w A env x px body orelse Q E it s₂) E s := by
  have N' : News g env.locals s.heap (Led c₀) := fun p hp => N p (hl p hp)
  refine wpAny_pyIter_str fun o St hW hst => ?_
  have W := hW A hh
  have hL : env.locals ∉ [s.heap.objs.size] := fun hm => absurd F.ns.lt ((List.mem_singleton.mp hm) ▸ Nat.lt_irrefl _)
  refine lf_walk (g := g) W hx hp hL ?_ Led ps (fun i => P ((KStt.codes xt).take i)) c₀ hadr ?_ hL (fun b hb => .inl hb) hst (F.push _) (fun p hp => ⟨Heap.get?_push_of_some _ (N' p hp).1, (N' p hp).2⟩) hk (by simpa using h0) ?_ ?_ hE
  · intro b hb
    rw [List.mem_singleton.mp hb]
    exact next_is_new F
  · intro b hb hI
    rw [← hadr c₀] at hb
    obtain ⟨p, hp, rfl⟩ := List.mem_map.mp hb
    exact absurd (Heap.lt_size (N' p hp).1) ((List.mem_singleton.mp hI) ▸ Nat.lt_irrefl _)
  · rintro i c v u h tk own hi ⟨n, t, hn, rfl⟩ hoff hP F₁ N₁
    have hn' := KStt.code_at hn
    have hs : (KStt.codes xt).take (i + 1) = (KStt.codes xt).take i ++ [(n : Int)] := by simp [List.take_add_one, hn']
    have e : KStt.codes xt = (KStt.codes xt).take i ++ (n : Int) :: (KStt.codes xt).drop (i + 1) := by
      have ht := List.take_append_drop (i + 1) (KStt.codes xt)
      rw [hs, List.append_assoc] at ht
      exact ht.symm
    rw [hs]
    exact turn _ _ n c t u h tk own e hoff hP F₁ N₁
  · intro c u h tk hP F₁ N₁
    have hl : xt.cps.size = (KStt.codes xt).length := (KStt.codes_length xt).symm
    rw [hl, List.take_length] at hP
    exact done c u h tk hP F₁ N₁
end
end Mine
end
section
open PySem PySem.W PySem.Calls PyProof.Rows PySem.Spec
set_option maxRecDepth 100000
set_option maxHeartbeats 8000000
namespace Mine
section
variable {prog : Program} {w : World} {A : Around} {h₀ : Heap} {L : Addr} {m : Str → Option Value} {env : Env} {ct elt : Expr} {x : Str} {scope : Scope} {cl : List (Str × Addr)} {s : Shared} {S : List (Addr × Obj) → Prop} {P : Nat → Value → Prop} {Fin : List Value → List (Addr × Obj) → Prop} {news : List (Addr × Obj)}
def CtYes (news : List (Addr × Obj)) (J : List Value → Prop) (ys : List Value) (y : Value) (news' : List (Addr × Obj)) : Prop := news' = news ∧ J (ys ++ [y])
def CtNo (news : List (Addr × Obj)) (J : List Value → Prop) (ys : List Value) (_ : Value) (news' : List (Addr × Obj)) : Prop := news' = news ∧ J ys
theorem ct_rest {n : Nat} (J : Nat → List Value → Prop) (h0 : J 0 [])
    (turn : ∀ i v I oI C oC D m₂ ys h tk (E' : Value → Shared → Prop), i < n → P i v → J i ys → LCg.NsObj oC m₂ → m₂ x = some v → Fr h₀ L h m → News h₀ L h ((I, oI) :: (C, oC) :: (D, LCg.lst ys) :: news) → LCg.Off3 I C D news → ((@Ne Nat I C) ∧ (@Ne Nat I D) ∧ (@Ne Nat C D)) →
      wpAny (model prog w) A (isTrue ct (compEnvC scope cl C env) (eval ct (compEnvC scope cl C env))) (fun b s' => if b = true then wpAny (model prog w) A (eval elt (compEnvC scope cl C env)) (LCg.CompEnd h₀ L m { s with heap := h, toks := tk } I oI C oC D (LCg.lst ys) S (CtYes news (J (i + 1)) ys)) E' s'
        else LCg.CompEnd h₀ L m { s with heap := h, toks := tk } I oI C oC D (LCg.lst ys) S (CtNo news (J (i + 1)) ys) Value.none s') E' { s with heap := h, toks := tk })
    (fin : ∀ ys, J n ys → Fin ys news) : LCt.CompRestT prog w A h₀ L m env ct elt x scope cl s S P Fin n 0 [] news := by
  have key : ∀ (j i : Nat) (ys : List Value), i + j = n → J i ys → LCt.CompRestT prog w A h₀ L m env ct elt x scope cl s S P Fin j i ys news := by
    intro j
    induction j with
    | zero =>
      intro i ys hi hy
      have e : i = n := by omega
      subst e
      exact LCt.CompRestT.zero (fin ys hy)
    | succ j ih =>
      intro i ys hi hy
      refine LCt.CompRestT.succ ?_
      intro v I oI C oC D m₂ h tk E' hv hC hx F N off ne
      refine wpAny_mono (turn i v I oI C oC D m₂ ys h tk E' (by omega) hv hy hC hx F N off ne) (fun b s₂ hq => ?_) fun _ _ e => e
      cases b with
      | true =>
        simp only [if_true] at hq ⊢
        refine wpAny_mono hq (fun y s₃ hr => ?_) fun _ _ e => e
        obtain ⟨h', tk', nw, e, F', N', off', hS, hn, hJ⟩ := hr
        rw [hn] at N' off' hS
        exact ⟨h', tk', news, e, F', N', off', hS, ih (i + 1) _ (by omega) hJ⟩
      | false =>
        simp only [Bool.false_eq_true, if_false] at hq ⊢
        obtain ⟨h', tk', nw, e, F', N', off', hS, hn, hJ⟩ := hq
        rw [hn] at N' off' hS
        exact ⟨h', tk', news, e, F', N', off', hS, ih (i + 1) _ (by omega) hJ⟩
  exact key n 0 [] (by omega) h0
theorem cg_rest {n : Nat} (J : Nat → List Value → Prop) (h0 : J 0 [])
    (turn : ∀ i v I oI C oC D m₂ ys h tk (E' : Value → Shared → Prop), i < n → P i v → J i ys → LCg.NsObj oC m₂ → m₂ x = some v → Fr h₀ L h m → News h₀ L h ((I, oI) :: (C, oC) :: (D, LCg.lst ys) :: news) → LCg.Off3 I C D news → ((@Ne Nat I C) ∧ (@Ne Nat I D) ∧ (@Ne Nat C D)) →
      wpAny (model prog w) A (eval elt (compEnvC scope cl C env)) (LCg.CompEnd h₀ L m { s with heap := h, toks := tk } I oI C oC D (LCg.lst ys) S (CtYes news (J (i + 1)) ys)) E' { s with heap := h, toks := tk })
    (fin : ∀ ys, J n ys → Fin ys news) : LCg.CompRest prog w A h₀ L m env elt x scope cl s S P Fin n 0 [] news := by
  have key : ∀ (j i : Nat) (ys : List Value), i + j = n → J i ys → LCg.CompRest prog w A h₀ L m env elt x scope cl s S P Fin j i ys news := by
    intro j
    induction j with
    | zero =>
      intro i ys hi hy
      have e : i = n := by omega
      subst e
      exact LCg.CompRest.zero (fin ys hy)
    | succ j ih =>
      intro i ys hi hy
      refine LCg.CompRest.succ ?_
      intro v I oI C oC D m₂ h tk E' hv hC hx F N off ne
      refine wpAny_mono (turn i v I oI C oC D m₂ ys h tk E' (by omega) hv hy hC hx F N off ne) (fun y s₃ hr => ?_) fun _ _ e => e
      obtain ⟨h', tk', nw, e, F', N', off', hS, hn, hJ⟩ := hr
      rw [hn] at N' off' hS
      exact ⟨h', tk', news, e, F', N', off', hS, ih (i + 1) _ (by omega) hJ⟩
  exact key n 0 [] (by omega) h0
theorem ct_end {s₁ : Shared} {I C D : Addr} {oI oC oD : Obj} {R : Value → List (Addr × Obj) → Prop} {y : Value} {h' : Heap} {tk : Nat} {all : List (Addr × Obj)}
    (F : Fr h₀ L h' m) (N : News h₀ L h' all) (off : LCg.Off3 I C D news) (sub : ∀ p ∈ (I, oI) :: (C, oC) :: (D, oD) :: news, p ∈ all) (hS : S news) (r : R y news) :
    LCg.CompEnd h₀ L m s₁ I oI C oC D oD S R y { s₁ with heap := h', toks := tk } := LCg.CompEnd.intro F N news sub off hS r
end
section
variable {M : Model} {A : Around} {E : Value → Shared → Prop} {s : Shared} {h₀ : Heap} {L a : Addr} {m : Str → Option Value} {name : Str} {scope : Scope} {cd : Value} {x : Str} {v : Value} {news : List (Addr × Obj)} {g : Obj → List (Addr × Obj)} {c : Addr} {o : Obj} {v₀ : Option Value}
theorem storeC_F {Q : Unit → Shared → Prop} (F : Fr h₀ L s.heap m) (N : News h₀ L s.heap news) (hc : (cellsFrom (L + 1) scope.names []).lookup x = some c) (U : UpdF c o news g) (hd : o.data = .cell v₀)
    (h : ∀ h' o', Fr h₀ L h' m → News h₀ L h' (g o') → o'.data = .cell (some v) → Q () { s with heap := h' })
    (hk : scope.kind = .function := by rfl) (hx : (envOfC name scope L a cd).kindOf x = some .cell := by rfl) : wpAny M A (storeName (envOfC name scope L a cd) x v) Q E s := by
  obtain ⟨own, rest, rfl, hg, h1, h2⟩ := U.split
  exact stCN F N hc hd h1 h2 (fun h' o' F' N' d' => h h' o' F' (hg o' ▸ N') d') hk hx
end
theorem lt_ne {news : List (Addr × Obj)} {a b : Addr} (h : ∀ p ∈ news, p.1 < a) (hab : @LE.le Nat _ a b) : ∀ p ∈ news, p.1 ≠ b := fun p hp e => by
  have h1 : @LT.lt Nat _ p.1 a := h p hp
  have h2 : @Eq Nat p.1 b := e
  omega
theorem pullA {d : Addr} {news : List (Addr × Obj)} {p q : Prop} (_h : p ∧ AllLt d news) (k : ∀ x : Addr, x = d → q) : q := k d rfl
theorem pullO {d : Addr} {news : List (Addr × Obj)} {q : Prop} (_h : LCg.Off1 d news) (k : ∀ x : Addr, x = d → q) : q := k d rfl
end Mine
end
section
open PySem PySem.W PySem.Calls PyProof.Rows
set_option maxRecDepth 100000
set_option maxHeartbeats 8000000
namespace Mine
theorem pow3_gives (a : Int) (t : Tok) (b : Int) (u : Tok) (c : Int) (v : Tok) (hc0 : ¬(c == 0) = true) (hc1 : ¬(c.natAbs == 1) = true) (hb : ¬ b < 0) (hc : ¬ c < 0) :
    Gives (Builtin.«int.__pow__» ⟨[.int a t, .int b u, .int c v], []⟩) (.int ((Builtin.powMod (a % (c.natAbs : Int)).toNat b.natAbs c.natAbs : Nat) : Int)) :=
  .of_wp fun M A E s Q h => by obtain ⟨hp, g, d, tk, os⟩ := s; wp_walk; simp only [hc, decide_false, Bool.false_and, Bool.false_eq_true, if_false]; exact ⟨_, rfl, h⟩
theorem pow3_entry : entryFor table "pow" = some Builtin.«pow» := entryFor_of_fast (by kernel_rfl)
theorem pow3_kind : builtinKind "pow" = none := by decide +kernel
theorem pow3_plain : plainId "pow" = true := by decide +kernel
theorem pow3_args (a b c : Value) : argsOk "pow" ⟨[a, b, c], []⟩ := by unfold argsOk; kernel_rfl
def powF (a b c : Int) : Int := ((Builtin.powMod (a % c).toNat b.toNat c.toNat : Nat) : Int)
theorem call_pow3 {prog : Program} {w : World} {A : Around} {E : Value → Shared → Prop} {s : Shared} {a b c : Int} {t u v : Tok} {Q : Value → Shared → Prop}
    (hc : 1 < c) (hb : 0 ≤ b)
    (h : Q (.int (powF a b c) s.toks) { s with toks := s.toks + 1 }) :
    wpAny (model prog w) A (call (.builtin "pow") [.int a t, .int b u, .int c v]) Q E s := by
  refine call_function_entry pow3_kind pow3_plain pow3_entry (pow3_args _ _ _) ?_
  have e1 : (c.natAbs : Int) = c := by omega
  have e2 : c.natAbs = c.toNat := by omega
  have e3 : b.natAbs = b.toNat := by omega
  have g := pow3_gives a t b u c v (by simp; omega) (by simp; omega) (by omega) (by omega)
  rw [e1, e2, e3] at g
  obtain ⟨hp, g', d, tk, os⟩ := s
  have hT : (⟨hp, g', d, tk, os⟩ : Shared).TypeIs (.int a t) "int" := rfl
  have e4 : PySem.dunder "pow" = Str.ofString "__pow__" := by decide +kernel
  have f3 := F.slot_int_pow.lookup
  rw [e4] at f3
  have f4 := F.slot_int_pow.bind (.int a t)
  repeat (any_goals (first | assumption | ((with_reducible show wpAny _ _ (call (Value.builtin "int.__pow__") _ _) _ _ _); refine call_gives F.slot_int_pow hT F.entry_int_pow (F.args_int_pow_3 _ _ _) g ?_; dsimp only [Made.post]) | wp_step))
  all_goals first | exact ⟨_, rfl, h⟩ | exact h | skip
end Mine
end
section
open PySem PySem.W PySem.Calls PyProof.Rows PySem.Spec
namespace Mine
def gcdF : Nat → Int → Int → Option Int
  | 0, _, _ => none
  | k+1, a, b => if b = 0 then some a else gcdF k b (Int.fmod a b)
theorem gcdF_stop {k : Nat} {a b r : Int} (h : gcdF k a b = some r) (hb : b = 0) : a = r := by
  cases k with
  | zero => cases h
  | succ k => rw [gcdF, if_pos hb] at h; exact Option.some.inj h
theorem gcdF_step {k : Nat} {a b r : Int} (h : gcdF k a b = some r) (hb : ¬ b = 0) : gcdF (k - 1) b (Int.fmod a b) = some r ∧ k - 1 < k := by
  cases k with
  | zero => cases h
  | succ k => rw [gcdF, if_neg hb] at h; exact ⟨h, by omega⟩
theorem abs_if (a : Int) : (if a < 0 then -a else a) = (a.natAbs : Int) := by split <;> omega
end Mine
end
section
open PySem PySem.W PySem.Calls PyProof.Rows PySem.Spec
set_option maxRecDepth 100000
namespace Mine
def jacIn : Nat → Int → Int → Int → Option (Int × Int)
  | 0, _, _, _ => none
  | k+1, a, n, t => if Builtin.bitAnd a 1 = 0 then jacIn k (a.fdiv 2) n (if ([3, 5].any fun x => x == Builtin.bitAnd n 7) = true then t * -1 else t) else some (a, t)
def jacOut : Nat → Int → Int → Int → Option Int
  | 0, _, _, _ => none
  | k+1, a, n, t => if a = 0 then some (if n = 1 then t else 0) else
    match jacIn (k+1) a n t with
    | none => none
    | some (a', t') => jacOut k (n.fmod a') a' (if Builtin.bitAnd n 3 = 3 ∧ Builtin.bitAnd a' 3 = 3 then t' * -1 else t')
def jacF (k : Nat) (a n : Int) : Option Int := if a = 0 ∨ a = 1 then some a else jacOut k (a.fmod n) n 1
theorem jacIn_stop {k : Nat} {a n t : Int} {x : Int × Int} (h : jacIn k a n t = some x) (hb : ¬ Builtin.bitAnd a 1 = 0) : x = (a, t) := by
  cases k with
  | zero => cases h
  | succ k => rw [jacIn, if_neg hb] at h; exact (Option.some.inj h).symm
theorem jacIn_step1 {k : Nat} {a n t : Int} {x : Int × Int} (h : jacIn k a n t = some x) (hb : Builtin.bitAnd a 1 = 0) (hc : ([3, 5].any fun x => x == Builtin.bitAnd n 7) = true) :
    jacIn (k - 1) (a.fdiv 2) n (t * -1) = some x ∧ k - 1 < k := by
  cases k with
  | zero => cases h
  | succ k => rw [jacIn, if_pos hb, if_pos hc] at h; exact ⟨h, by omega⟩
theorem jacIn_step2 {k : Nat} {a n t : Int} {x : Int × Int} (h : jacIn k a n t = some x) (hb : Builtin.bitAnd a 1 = 0) (hc : ([3, 5].any fun x => x == Builtin.bitAnd n 7) = false) :
    jacIn (k - 1) (a.fdiv 2) n t = some x ∧ k - 1 < k := by
  cases k with
  | zero => cases h
  | succ k => rw [jacIn, if_pos hb, hc] at h; exact ⟨h, by omega⟩
theorem jacOut_stop1 {k : Nat} {a n t r : Int} (h : jacOut k a n t = some r) (ha : a = 0) (hn : n = 1) : t = r := by
  cases k with
  | zero => cases h
  | succ k => rw [jacOut, if_pos ha, if_pos hn] at h; exact (Option.some.inj h)
theorem jacOut_stop2 {k : Nat} {a n t r : Int} (h : jacOut k a n t = some r) (ha : a = 0) (hn : n ≠ 1) : 0 = r := by
  cases k with
  | zero => cases h
  | succ k => rw [jacOut, if_pos ha, if_neg hn] at h; exact (Option.some.inj h)
theorem jacOut_step {k : Nat} {a n t r : Int} (h : jacOut k a n t = some r) (ha : a ≠ 0) : ∃ a' t', jacIn k a n t = some (a', t') ∧
    (Builtin.bitAnd n 3 = 3 → Builtin.bitAnd a' 3 = 3 → jacOut (k - 1) (n.fmod a') a' (t' * -1) = some r) ∧ (Builtin.bitAnd n 3 = 3 → Builtin.bitAnd a' 3 ≠ 3 → jacOut (k - 1) (n.fmod a') a' t' = some r) ∧
    (Builtin.bitAnd n 3 ≠ 3 → jacOut (k - 1) (n.fmod a') a' t' = some r) ∧ k - 1 < k := by
  cases k with
  | zero => cases h
  | succ k =>
    rw [jacOut, if_neg ha] at h
    cases hj : jacIn (k + 1) a n t with
    | none => rw [hj] at h; cases h
    | some x =>
      rw [hj] at h
      obtain ⟨a', t'⟩ := x
      refine ⟨a', t', rfl, fun h1 h2 => ?_, fun h1 h2 => ?_, fun h1 => ?_, by omega⟩
      · simpa [h1, h2] using h
      · simpa [h1, h2] using h
      · simpa [h1] using h
theorem bit_zero {a : Int} (h : Builtin.bitAnd a 1 ≠ 0) (e : a = 0) : False := by subst e; exact h (by decide)
theorem jacF_a {k : Nat} {a n r : Int} (h : jacF k a n = some r) (ha : a = 0 ∨ a = 1) : a = r := by rw [jacF, if_pos ha] at h; exact Option.some.inj h
theorem jacF_b {k : Nat} {a n r : Int} (h : jacF k a n = some r) (h0 : a ≠ 0) (h1 : a ≠ 1) : jacOut k (a.fmod n) n 1 = some r := by rw [jacF, if_neg (by omega)] at h; exact h
end Mine
end
section
open PySem PySem.W PySem.Calls PyProof.Rows PySem.Spec
set_option maxRecDepth 100000
namespace Mine
def invLoop : Nat → Int → Int → Int → Int → Option (Int × Int)
  | 0, _, _, _, _ => none
  | k+1, a, m, r, x => if m = 0 then some (a, x) else if -(2^64) < m ∧ m < 2^64 ∧ -(2^64) < a.fdiv m ∧ a.fdiv m < 2^64 then invLoop k m (a.fmod m) (x - a.fdiv m * r) r else none
theorem noPy {a m : Int} (h1 : -(2^64) < m) (h2 : m < 2^64) : Builtin.divisionGoesByPylong a m = false := by
  refine PyProof.noPylong_of_log2 ?_
  by_cases h0 : m.natAbs = 0
  · rw [h0]; decide +kernel
  · have h30 : m.natAbs.log2 < 64 := (Nat.log2_lt h0).mpr (by omega)
    omega
theorem invLoop_stop {k : Nat} {a m r x : Int} {y : Int × Int} (h : invLoop k a m r x = some y) (hm : m = 0) : y = (a, x) := by
  cases k with
  | zero => cases h
  | succ k => rw [invLoop, if_pos hm] at h; exact (Option.some.inj h).symm
theorem invLoop_step {k : Nat} {a m r x : Int} {y : Int × Int} (h : invLoop k a m r x = some y) (hm : m ≠ 0) :
    Builtin.divisionGoesByPylong a m = false ∧ IntMulOk (a.fdiv m) r ∧ invLoop (k - 1) m (a.fmod m) (x - a.fdiv m * r) r = some y ∧ k - 1 < k := by
  cases k with
  | zero => cases h
  | succ k =>
    rw [invLoop, if_neg hm] at h
    split at h
    · rename_i hq
      exact ⟨noPy hq.1 hq.2.1, IntMulOk.of_left (intBits_le_64 hq.2.2.1 hq.2.2.2), h, by omega⟩
    · cases h
def invF (k : Nat) (a m : Int) : Option Int := match invLoop k a m 0 1 with
  | some (a', x) => if a' = 1 then some (x.fmod m) else none
  | none => none
theorem invF_loop {k : Nat} {a m r : Int} (h : invF k a m = some r) : ∃ x, invLoop k a m 0 1 = some (1, x) ∧ x.fmod m = r := by
  unfold invF at h
  cases hj : invLoop k a m 0 1 with
  | none => rw [hj] at h; cases h
  | some y =>
    rw [hj] at h
    obtain ⟨a', x⟩ := y
    dsimp only at h
    split at h
    · rename_i e; exact ⟨x, by rw [e], Option.some.inj h⟩
    · cases h
end Mine
end
section
open PySem PySem.W PySem.Calls PyProof.Rows PySem.Spec
set_option maxRecDepth 100000
namespace Mine
def twosF : Nat → Int → Int → Option (Int × Int)
  | 0, _, _ => none
  | k+1, t, s => if t.fmod 2 = 0 then twosF k (t.fdiv 2) (s + 1) else some (t, s)
theorem twosF_stop {k : Nat} {t s : Int} {x : Int × Int} (h : twosF k t s = some x) (hb : t.fmod 2 ≠ 0) : x = (t, s) := by
  cases k with
  | zero => cases h
  | succ k => rw [twosF, if_neg hb] at h; exact (Option.some.inj h).symm
theorem twosF_step {k : Nat} {t s : Int} {x : Int × Int} (h : twosF k t s = some x) (hb : t.fmod 2 = 0) : twosF (k - 1) (t.fdiv 2) (s + 1) = some x ∧ k - 1 < k := by
  cases k with
  | zero => cases h
  | succ k => rw [twosF, if_pos hb] at h; exact ⟨h, by omega⟩
def sprpF : Nat → Int → Int → Bool
  | 0, _, _ => false
  | i+1, n, x => if powF x 2 n = 1 then false else if powF x 2 n = n - 1 then true else sprpF i n (powF x 2 n)
theorem sprpF_step {i : Nat} {n x : Int} {b : Bool} (h : sprpF i n x = b) (hi : 0 < i) : (powF x 2 n = 1 → b = false) ∧ (powF x 2 n ≠ 1 → powF x 2 n = n - 1 → b = true) ∧ (powF x 2 n ≠ 1 → powF x 2 n ≠ n - 1 → sprpF (i - 1) n (powF x 2 n) = b) := by
  cases i with
  | zero => omega
  | succ i =>
    rw [sprpF] at h
    refine ⟨fun e => ?_, fun e f => ?_, fun e f => ?_⟩
    · rw [if_pos e] at h; exact h.symm
    · rw [if_neg e, if_pos f] at h; exact h.symm
    · rw [if_neg e, if_neg f] at h; exact h
def strongF (k : Nat) (n : Int) : Option Bool := match twosF k ((n - 1).fdiv 2) 1 with
  | none => none
  | some (t, s) => if 0 ≤ t ∧ 1 ≤ s ∧ s < 1000 then some (if powF 2 t n ≠ 1 ∧ powF 2 t n ≠ n - 1 then sprpF (s - 1).toNat n (powF 2 t n) else true) else none
theorem strongF_of {k : Nat} {n : Int} {r : Bool} (h : strongF k n = some r) : ∃ t s, twosF k ((n - 1).fdiv 2) 1 = some (t, s) ∧ 0 ≤ t ∧ 1 ≤ s ∧ s < 1000 ∧
    (powF 2 t n = 1 → r = true) ∧ (powF 2 t n = n - 1 → r = true) ∧ (powF 2 t n ≠ 1 → powF 2 t n ≠ n - 1 → sprpF (s - 1).toNat n (powF 2 t n) = r) := by
  unfold strongF at h
  cases hj : twosF k ((n - 1).fdiv 2) 1 with
  | none => rw [hj] at h; cases h
  | some x =>
    obtain ⟨t, s⟩ := x
    rw [hj] at h
    dsimp only at h
    split at h
    · rename_i hc
      have e := Option.some.inj h
      refine ⟨t, s, rfl, hc.1, hc.2.1, hc.2.2, fun h1 => ?_, fun h1 => ?_, fun h1 h2 => ?_⟩
      · rw [← e, if_neg (by simp [h1])]
      · rw [← e, if_neg (by simp [h1])]
      · rw [← e, if_pos ⟨h1, h2⟩]
    · cases h
abbrev Sm (x : Int) : Prop := -(2 ^ 64) < x ∧ x < 2 ^ 64
theorem Sm.left {a : Int} (h : Sm a) (b : Int) : IntMulOk a b := .of_left (intBits_le_64 h.1 h.2)
theorem Sm.right {b : Int} (h : Sm b) (a : Int) : IntMulOk a b := .of_right (intBits_le_64 h.1 h.2)
def dF (K : Nat) : Nat → Int → Int → Option (Bool ⊕ Int)
  | 0, _, _ => none
  | k+1, n, c =>
    match jacF K c n with
    | none => none
    | some j => if j = 0 then some (.inl (c == n)) else if j = -1 then some (.inr c) else
      match jacF K (-2 - c) n with
      | none => none
      | some j => if j = 0 then some (.inl (-(-2 - c) == n)) else if j = -1 then some (.inr (-2 - c)) else
        if -2 - c = -13 then none else dF K k n (c + 4)
theorem dF_step {K k : Nat} {n c : Int} {r : Bool ⊕ Int} (h : dF K k n c = some r) : ∃ j1 j2, jacF K c n = some j1 ∧ (j1 = 0 → r = .inl (c == n)) ∧ (j1 = -1 → r = .inr c) ∧
    (j1 ≠ 0 → j1 ≠ -1 → jacF K (-2 - c) n = some j2) ∧ (j1 ≠ 0 → j1 ≠ -1 → j2 = 0 → r = .inl (-(-2 - c) == n)) ∧ (j1 ≠ 0 → j1 ≠ -1 → j2 = -1 → r = .inr (-2 - c)) ∧
    (j1 ≠ 0 → j1 ≠ -1 → j2 ≠ 0 → j2 ≠ -1 → -2 - c ≠ -13 ∧ dF K (k - 1) n (c + 4) = some r) ∧ k - 1 < k := by
  cases k with
  | zero => cases h
  | succ k =>
    rw [dF] at h
    cases h1 : jacF K c n with
    | none => rw [h1] at h; cases h
    | some j1 =>
      rw [h1] at h
      dsimp only at h
      by_cases e0 : j1 = 0
      · rw [if_pos e0] at h
        exact ⟨j1, 0, rfl, fun _ => (Option.some.inj h).symm, fun e => by omega, fun e => absurd e0 e, fun e => absurd e0 e, fun e => absurd e0 e, fun e => absurd e0 e, by omega⟩
      · rw [if_neg e0] at h
        by_cases e1 : j1 = -1
        · rw [if_pos e1] at h
          exact ⟨j1, 0, rfl, fun e => absurd e e0, fun _ => (Option.some.inj h).symm, fun _ e => absurd e1 e, fun _ e => absurd e1 e, fun _ e => absurd e1 e, fun _ e => absurd e1 e, by omega⟩
        · rw [if_neg e1] at h
          cases h2 : jacF K (-2 - c) n with
          | none => rw [h2] at h; cases h
          | some j2 =>
            rw [h2] at h
            dsimp only at h
            refine ⟨j1, j2, rfl, fun e => absurd e e0, fun e => absurd e e1, fun _ _ => rfl, fun _ _ f0 => ?_, fun _ _ f1 => ?_, fun _ _ f0 f1 => ?_, by omega⟩
            · rw [if_pos f0] at h; exact (Option.some.inj h).symm
            · rw [if_neg (by omega), if_pos f1] at h; exact (Option.some.inj h).symm
            · rw [if_neg f0, if_neg f1] at h
              split at h
              · cases h
              · rename_i hc; exact ⟨hc, h⟩
def lucF (n b : Int) : List Int → Int → Int → Int → Int → Option (Int × Int)
  | [], v, w, _, _ => some (v, w)
  | d :: r, v, w, q, Q => if Sm v ∧ Sm w ∧ Sm q ∧ Sm ((q * Q).fmod n) then
      (if d = 49 then lucF n b r ((w * v - (q * Q).fmod n).fmod n) ((w * w - 2 * (q * Q).fmod n * b).fmod n) ((q * Q).fmod n) (((q * Q).fmod n * b).fmod n)
       else lucF n b r ((v * v - 2 * (q * Q).fmod n).fmod n) ((w * v - (q * Q).fmod n).fmod n) ((q * Q).fmod n) ((q * Q).fmod n)) else none
theorem lucF_step {n b d v w q Q : Int} {r : List Int} {x : Int × Int} (h : lucF n b (d :: r) v w q Q = some x) : Sm v ∧ Sm w ∧ Sm q ∧ Sm ((q * Q).fmod n) ∧
    (d = 49 → lucF n b r ((w * v - (q * Q).fmod n).fmod n) ((w * w - 2 * (q * Q).fmod n * b).fmod n) ((q * Q).fmod n) (((q * Q).fmod n * b).fmod n) = some x) ∧
    (d ≠ 49 → lucF n b r ((v * v - 2 * (q * Q).fmod n).fmod n) ((w * v - (q * Q).fmod n).fmod n) ((q * Q).fmod n) ((q * Q).fmod n) = some x) := by
  rw [lucF] at h
  split at h
  · rename_i hc
    refine ⟨hc.1, hc.2.1, hc.2.2.1, hc.2.2.2, fun e => ?_, fun e => ?_⟩
    · rw [if_pos e] at h; exact h
    · rw [if_neg e] at h; exact h
  · cases h
def finF : Nat → Int → Int → Int → Option Bool
  | 0, _, _, _ => some false
  | i+1, n, v, q => if Sm v ∧ Sm q then (if (v * v - 2 * q).fmod n = 0 then some true else finF i n ((v * v - 2 * q).fmod n) ((q * q).fmod n)) else none
theorem finF_step {i : Nat} {n v q : Int} {r : Bool} (h : finF i n v q = some r) (hi : 0 < i) : Sm v ∧ Sm q ∧ ((v * v - 2 * q).fmod n = 0 → r = true) ∧
    ((v * v - 2 * q).fmod n ≠ 0 → finF (i - 1) n ((v * v - 2 * q).fmod n) ((q * q).fmod n) = some r) := by
  cases i with
  | zero => omega
  | succ i =>
    rw [finF] at h
    split at h
    · rename_i hc
      refine ⟨hc.1, hc.2, fun e => ?_, fun e => ?_⟩
      · rw [if_pos e] at h; exact (Option.some.inj h).symm
      · rw [if_neg e] at h; exact h
    · cases h
def bitsF (t : Int) : List Int := (Nat.toDigits 2 t.toNat).map fun c => ((c.toNat : Nat) : Int)
def lucasF (k : Nat) (n D : Int) : Option Bool :=
  match gcdF k n.natAbs ((1 - D).fdiv 4).natAbs with
  | none => none
  | some g => if 1 < g ∧ g < n then some false else
    match twosF k ((n + 1).fdiv 2) 1 with
    | none => none
    | some (t, s) => if 0 < t ∧ t < 2 ^ 64 ∧ 1 ≤ s ∧ s < 1000 ∧ Sm ((1 - D).fdiv 4) then
        match lucF n ((1 - D).fdiv 4) (bitsF t) 2 1 1 1 with
        | none => none
        | some (v, w) => if v = 0 then some true else
          match invF k D n with
          | none => none
          | some i => if Sm i then (if ((2 * w - v) * i).fmod n = 0 then some true else finF (s - 1).toNat n v (powF ((1 - D).fdiv 4) t n)) else none
      else none
theorem lucasF_of {k : Nat} {n D : Int} {r : Bool} (h : lucasF k n D = some r) : ∃ g, gcdF k n.natAbs ((1 - D).fdiv 4).natAbs = some g ∧ (1 < g → g < n → r = false) ∧
    (¬ (1 < g ∧ g < n) → ∃ t s v w, twosF k ((n + 1).fdiv 2) 1 = some (t, s) ∧ 0 < t ∧ t < 2 ^ 64 ∧ 1 ≤ s ∧ s < 1000 ∧ Sm ((1 - D).fdiv 4) ∧
      lucF n ((1 - D).fdiv 4) (bitsF t) 2 1 1 1 = some (v, w) ∧ (v = 0 → r = true) ∧ (v ≠ 0 → ∃ i, invF k D n = some i ∧ Sm i ∧
        (((2 * w - v) * i).fmod n = 0 → r = true) ∧ (((2 * w - v) * i).fmod n ≠ 0 → finF (s - 1).toNat n v (powF ((1 - D).fdiv 4) t n) = some r))) := by
  unfold lucasF at h
  cases h1 : gcdF k n.natAbs ((1 - D).fdiv 4).natAbs with
  | none => rw [h1] at h; cases h
  | some g =>
    rw [h1] at h
    dsimp only at h
    by_cases hg : 1 < g ∧ g < n
    · rw [if_pos hg] at h
      exact ⟨g, rfl, fun _ _ => (Option.some.inj h).symm, fun e => absurd hg e⟩
    · rw [if_neg hg] at h
      refine ⟨g, rfl, fun a b => absurd ⟨a, b⟩ hg, fun _ => ?_⟩
      cases h2 : twosF k ((n + 1).fdiv 2) 1 with
      | none => rw [h2] at h; cases h
      | some x =>
        obtain ⟨t, s⟩ := x
        rw [h2] at h
        dsimp only at h
        split at h
        · rename_i hc
          cases h3 : lucF n ((1 - D).fdiv 4) (bitsF t) 2 1 1 1 with
          | none => rw [h3] at h; cases h
          | some y =>
            obtain ⟨v, w⟩ := y
            rw [h3] at h
            dsimp only at h
            refine ⟨t, s, v, w, rfl, hc.1, hc.2.1, hc.2.2.1, hc.2.2.2.1, hc.2.2.2.2, h3, fun e => ?_, fun e => ?_⟩
            · rw [if_pos e] at h; exact (Option.some.inj h).symm
            · rw [if_neg e] at h
              cases h4 : invF k D n with
              | none => rw [h4] at h; cases h
              | some i =>
                rw [h4] at h
                dsimp only at h
                split at h
                · rename_i hi
                  refine ⟨i, rfl, hi, fun e => ?_, fun e => ?_⟩
                  · rw [if_pos e] at h; exact (Option.some.inj h).symm
                  · rw [if_neg e] at h; exact h
                · cases h
        · cases h
def bpswF (k : Nat) (n : Int) : Option Bool := match strongF k n with
  | none => none
  | some false => some false
  | some true => match dF k k n 5 with
    | none => none
    | some (.inl b) => some b
    | some (.inr D) => lucasF k n D
theorem bpswF_of {k : Nat} {n : Int} {r : Bool} (h : bpswF k n = some r) : ∃ b, strongF k n = some b ∧ (b = false → r = false) ∧ (b = true → ∃ d, dF k k n 5 = some d ∧ (∀ x, d = .inl x → r = x) ∧ (∀ D, d = .inr D → lucasF k n D = some r)) := by
  unfold bpswF at h
  cases h1 : strongF k n with
  | none => rw [h1] at h; cases h
  | some b =>
    rw [h1] at h
    cases b with
    | false => exact ⟨false, rfl, fun _ => (Option.some.inj h).symm, fun e => Bool.noConfusion e⟩
    | true =>
      refine ⟨true, rfl, fun e => Bool.noConfusion e, fun _ => ?_⟩
      cases h2 : dF k k n 5 with
      | none => rw [h2] at h; cases h
      | some d =>
        rw [h2] at h
        refine ⟨d, rfl, fun x e => ?_, fun D e => ?_⟩
        · subst e; exact (Option.some.inj h).symm
        · subst e; exact h
def primeF (k : Nat) (n : Int) (ns : List Int) : Option Bool :=
  if n.fmod 2 = 0 ∨ n < 3 then some (n == 2) else
  match ns.find? (fun p => decide (n.fmod p = 0)) with
  | some p => some (n == p)
  | none => if n < 2 ^ 64 then bpswF k n else none
theorem primeF_of {k : Nat} {n : Int} {ns : List Int} {r : Bool} (h : primeF k n ns = some r) : (n.fmod 2 = 0 → r = (n == 2)) ∧ (n < 3 → r = (n == 2)) ∧
    (n.fmod 2 ≠ 0 → ¬ n < 3 → (∀ pre p post, ns = pre ++ p :: post → (∀ q ∈ pre, n.fmod q ≠ 0) → n.fmod p = 0 → r = (n == p)) ∧ ((∀ q ∈ ns, n.fmod q ≠ 0) → n < 2 ^ 64 ∧ bpswF k n = some r)) := by
  unfold primeF at h
  by_cases hc : n.fmod 2 = 0 ∨ n < 3
  · rw [if_pos hc] at h
    exact ⟨fun _ => (Option.some.inj h).symm, fun _ => (Option.some.inj h).symm, fun a b => absurd hc (by omega)⟩
  · rw [if_neg hc] at h
    refine ⟨fun e => absurd (.inl e) hc, fun e => absurd (.inr e) hc, fun _ _ => ⟨fun pre p post e hq hp => ?_, fun hq => ?_⟩⟩
    · have hf : ns.find? (fun p => decide (n.fmod p = 0)) = some p := by
        rw [e, List.find?_append, List.find?_eq_none.mpr (fun q hq' => by simpa using hq q hq')]
        simp [hp]
      rw [hf] at h
      exact (Option.some.inj h).symm
    · have hf : ns.find? (fun p => decide (n.fmod p = 0)) = none := List.find?_eq_none.mpr (fun q hq' => by simpa using hq q hq')
      rw [hf] at h
      dsimp only at h
      split at h
      · rename_i hl; exact ⟨hl, h⟩
      · cases h
end Mine
end
section
open PySem PySem.W PySem.Calls PyProof.Rows PySem.Spec
set_option maxRecDepth 100000
namespace Mine
theorem slice2 {x : Str} (hx : 2 ≤ x.length) : Txt.slice x (some 2) none = ⟨(x.cps.toList.drop 2).toArray⟩ := by
  have h1 := StrLaws.sliceText_nat x (a := 2) (b := x.length) hx (Nat.le_refl _)
  have h2 : StrLaws.sliceText x (some ((2 : Nat) : Int)) (some (x.length : Int)) = Txt.slice x (some 2) none := by
    unfold StrLaws.sliceText Txt.slice
    rw [StrLaws.sliceIdx_none_hi]
    rfl
  rw [← h2, h1]
  congr 2
  rw [List.take_of_length_le]
  simp [Str.length]
theorem codes_bin (t : Int) (h : 0 ≤ t) : KStt.codes (Txt.slice (baseText "0b" 2 t) (some 2) none) = bitsF t := by
  rw [slice2 (by have := (fact_bin t).1; omega), baseText_nonneg h]
  have e : t.natAbs = t.toNat := by omega
  rw [e, Str.ofString_eq_toList, Str.ofString_eq_toList, Str.ofString_eq_toList]
  simp only [KStt.codes, bitsF]
  have e2 : ∀ a b c : Array Nat, ((⟨a⟩ : Str) ++ ⟨b⟩ ++ ⟨c⟩).cps.toList = a.toList ++ b.toList ++ c.toList := by
    intro a b c
    show ((a ++ b) ++ c).toList = _
    simp
  rw [e2]
  simp
theorem code_one {d : Nat} : (⟨#[d]⟩ : Str) = Str.ofString "1" ↔ (d : Int) = 49 := by
  have e : Str.ofString "1" = ⟨#[49]⟩ := by decide +kernel
  rw [e]
  constructor
  · intro h
    injection h with h
    have := congrArg Array.toList h
    simp at this
    omega
  · intro h
    have : d = 49 := by omega
    rw [this]
end Mine
end
section
open PySem PySem.W PySem.Calls PyProof.Rows PySem.Spec
set_option maxRecDepth 100000
namespace Mine
def lpI : Nat → Int → Int → Bool
  | 0, _, _ => true
  | k+1, d, n => if n < d * d then true else if n.fmod d = 0 then false else lpI k (d + 1) n
def lawPrime (b : Nat) (n : Int) : Bool := if n < 2 then false else lpI b 2 n
theorem lpI_step {k : Nat} {d n : Int} {r : Bool} (h : lpI k d n = r) (hk : 0 < k) : (n < d * d → r = true) ∧ (¬ n < d * d → n.fmod d = 0 → r = false) ∧ (¬ n < d * d → n.fmod d ≠ 0 → lpI (k - 1) (d + 1) n = r) := by
  cases k with
  | zero => omega
  | succ k =>
    rw [lpI] at h
    refine ⟨fun e => ?_, fun e f => ?_, fun e f => ?_⟩
    · rw [if_pos e] at h; exact h.symm
    · rw [if_neg e, if_pos f] at h; exact h.symm
    · rw [if_neg e, if_neg f] at h; exact h
theorem lawPrime_of {b : Nat} {n : Int} {r : Bool} (h : lawPrime b n = r) : (n < 2 → r = false) ∧ (¬ n < 2 → lpI b 2 n = r) := by
  unfold lawPrime at h
  refine ⟨fun e => ?_, fun e => ?_⟩
  · rw [if_pos e] at h; exact h.symm
  · rw [if_neg e] at h; exact h
def llF : Nat → Int → Int → Option Int
  | 0, _, s => some s
  | k+1, n, s => if Sm s then llF k n ((s * s - 2).fmod n) else none
theorem llF_step {k : Nat} {n s : Int} {r : Int} (h : llF k n s = some r) (hk : 0 < k) : Sm s ∧ llF (k - 1) n ((s * s - 2).fmod n) = some r := by
  cases k with
  | zero => omega
  | succ k =>
    rw [llF] at h
    split at h
    · rename_i hc; exact ⟨hc, h⟩
    · cases h
def mersF (e : Int) : Option Bool := if e = 2 then some true else if lawPrime 10 e = false then some false else
  match llF (e - 2).toNat (2 ^ e.toNat - 1) 4 with
  | none => none
  | some s => some (s == 0)
theorem mersF_of {e : Int} {r : Bool} (h : mersF e = some r) : (e = 2 → r = true) ∧ (e ≠ 2 → lawPrime 10 e = false → r = false) ∧ (e ≠ 2 → lawPrime 10 e = true → ∃ s, llF (e - 2).toNat (2 ^ e.toNat - 1) 4 = some s ∧ r = (s == 0)) := by
  unfold mersF at h
  refine ⟨fun a => ?_, fun a b => ?_, fun a b => ?_⟩
  · rw [if_pos a] at h; exact (Option.some.inj h).symm
  · rw [if_neg a, if_pos b] at h; exact (Option.some.inj h).symm
  · rw [if_neg a, if_neg (by rw [b]; decide)] at h
    cases hj : llF (e - 2).toNat (2 ^ e.toNat - 1) 4 with
    | none => rw [hj] at h; cases h
    | some s => rw [hj] at h; exact ⟨s, rfl, (Option.some.inj h).symm⟩
def halF : Nat → Int → Int
  | 0, r => r
  | k+1, r => halF k (if r.fmod 2 = 0 then r.fdiv 2 else r)
theorem halF_step {k : Nat} {r x : Int} (h : halF k r = x) (hk : 0 < k) : (r.fmod 2 = 0 → halF (k - 1) (r.fdiv 2) = x) ∧ (r.fmod 2 ≠ 0 → halF (k - 1) r = x) := by
  cases k with
  | zero => omega
  | succ k =>
    rw [halF] at h
    refine ⟨fun a => ?_, fun a => ?_⟩
    · rw [if_pos a] at h; exact h
    · rw [if_neg a] at h; exact h
def fermF (e : Int) : Bool := if e < 2 then true else if halF 6 e ≠ 1 then false else powF 3 ((2 ^ e.toNat + 1 - 1 : Int).fdiv 2) (2 ^ e.toNat + 1) == 2 ^ e.toNat + 1 - 1
theorem fermF_of {e : Int} {r : Bool} (h : fermF e = r) : (e < 2 → r = true) ∧ (¬ e < 2 → halF 6 e ≠ 1 → r = false) ∧ (¬ e < 2 → halF 6 e = 1 → r = (powF 3 ((2 ^ e.toNat + 1 - 1 : Int).fdiv 2) (2 ^ e.toNat + 1) == 2 ^ e.toNat + 1 - 1)) := by
  unfold fermF at h
  refine ⟨fun a => ?_, fun a b => ?_, fun a b => ?_⟩
  · rw [if_pos a] at h; exact h.symm
  · rw [if_neg a, if_pos b] at h; exact h.symm
  · rw [if_neg a, if_neg (by rw [b]; decide)] at h; exact h.symm
theorem pow_pos2 (k : Nat) : (1 : Int) ≤ 2 ^ k := by
  have h : (1 : Nat) ≤ 2 ^ k := Nat.one_le_two_pow
  have e : ((2 : Int) ^ k) = ((2 ^ k : Nat) : Int) := by simp
  rw [e]; omega
theorem pow_ge4 {k : Nat} (h : 2 ≤ k) : (4 : Int) ≤ 2 ^ k := by
  obtain ⟨j, rfl⟩ : ∃ j, k = j + 2 := ⟨k - 2, by omega⟩
  have h1 := pow_pos2 j
  rw [Int.pow_add]
  omega
theorem lawPrime_two {b : Nat} {n : Int} (h : lawPrime b n = true) : 2 ≤ n := by
  unfold lawPrime at h
  split at h
  · cases h
  · omega
end Mine
end
section
open PySem PySem.W PySem.Calls PyProof.Rows PySem.Spec
set_option maxRecDepth 100000
namespace Mine
def BASIS : List Int := [3, 5, 7, 11, 13, 17, 19, 23, 29, 31, 37, 41, 43, 47, 53, 59]
def okN (n : Int) (r : Bool) : Bool :=
  if n.fmod 2 = 0 ∨ n < 3 then (n == 2) == r else
    (BASIS.all fun p => !decide (n.fmod p = 0) || ((n == p) == r)) && decide (n < 2 ^ 64) && decide (bpswF 200 n = some r)
theorem okN_use {n : Int} {r : Bool} (h : okN n r = true) (ns : List Int) (hns : ∀ p ∈ ns, p ∈ BASIS) : primeF 200 n ns = some r := by
  unfold okN at h
  unfold primeF
  split at h
  · rename_i hc
    rw [if_pos hc, eq_of_beq h]
  · rename_i hc
    rw [if_neg hc]
    simp only [Bool.and_eq_true, decide_eq_true_eq] at h
    obtain ⟨⟨h1, h2⟩, h3⟩ := h
    cases hf : ns.find? (fun p => decide (n.fmod p = 0)) with
    | some p =>
      have hp := List.find?_some hf
      have hm := hns p (List.mem_of_find?_eq_some hf)
      have h4 := List.all_eq_true.mp h1 p hm
      simp only [hp, Bool.not_true, Bool.false_or] at h4
      exact congrArg some (eq_of_beq h4)
    | none =>
      dsimp only
      rw [if_pos h2, h3]
def chkE (e : Nat) : Bool := match mersF e with
  | none => false
  | some r => okN (2 ^ e - 1) r && okN (2 ^ e + 1) (fermF e)
theorem chkE_a : ∀ e : Fin 16, chkE e.val = true := by decide +kernel
theorem chkE_b : ∀ e : Fin 16, chkE (16 + e.val) = true := by decide +kernel
theorem chkE_c : ∀ e : Fin 16, chkE (32 + e.val) = true := by decide +kernel
theorem chkE_d : ∀ e : Fin 16, chkE (48 + e.val) = true := by decide +kernel
theorem chkE_all (e : Nat) (h : e < 64) : chkE e = true := by
  by_cases h1 : e < 16
  · exact chkE_a ⟨e, h1⟩
  by_cases h2 : e < 32
  · have := chkE_b ⟨e - 16, by omega⟩
    rwa [show 16 + (e - 16) = e by omega] at this
  by_cases h3 : e < 48
  · have := chkE_c ⟨e - 32, by omega⟩
    rwa [show 32 + (e - 32) = e by omega] at this
  · have := chkE_d ⟨e - 48, by omega⟩
    rwa [show 48 + (e - 48) = e by omega] at this
theorem law01 (e : Int) (h0 : 0 ≤ e) (h1 : e < 64) : ∃ r, mersF e = some r ∧ (∀ ns : List Int, (∀ p ∈ ns, p ∈ BASIS) → primeF 200 (2 ^ e.toNat - 1) ns = some r) ∧ (∀ ns : List Int, (∀ p ∈ ns, p ∈ BASIS) → primeF 200 (2 ^ e.toNat + 1) ns = some (fermF e)) := by
  have h := chkE_all e.toNat (by omega)
  unfold chkE at h
  have he : ((e.toNat : Nat) : Int) = e := by omega
  rw [he] at h
  cases hm : mersF e with
  | none => rw [hm] at h; cases h
  | some r =>
    rw [hm] at h
    dsimp only at h
    rw [Bool.and_eq_true] at h
    exact ⟨r, rfl, okN_use h.1, okN_use h.2⟩
theorem basis_small : ∀ p ∈ BASIS, 0 < p ∧ p < 2 ^ 64 := by decide +kernel
end Mine
end
section
open PySem PySem.W PySem.Calls PyProof.Rows PySem.Spec
set_option maxRecDepth 100000
namespace Mine
abbrev Cl (w : World) (f : Addr) (news : List (Addr × Obj)) (vs : List Value) (k : Nat) (Res : Value → Prop) : Prop :=
  ∀ (p : Program) (loose : List Str) (mean : ExcName → Option Value) (mg mb : Str → Option Value) (dp un : Nat) (gd : Option (List Code)) (cn : Str) (cs : Scope) (a : Addr) (ccd : Value) (cl : List (Str × Addr)) (outer : List Env) (A₀ : Around) (base h₀ : Heap) (L : Addr) (m : Str → Option Value) (s : Shared) (Q E : Value → Shared → Prop),
    Below A₀ base outer h₀ → Fr h₀ L s.heap m → (hd.heap_39 w.params).In h₀ → News h₀ L s.heap news → Top p loose mean mg mb h₀ → cs.kind = .function → dp + k < recursionLimit → un + 8 * k < cLine →
    (∀ (v : Value) (h' : Heap) (tk' : Nat), Res v → Fr h₀ L h' m → News h₀ L h' news → Q v { s with heap := h', toks := tk' }) →
    wpAny (model PySem.Challenge.rw_yt0005_01.row.prog w) (ktrTop dp un gd cn cs L a ccd cl outer) (call (.ref f) vs) Q E s
theorem Cl.use {w : World} {f : Addr} {news : List (Addr × Obj)} {vs : List Value} {k : Nat} {Res : Value → Prop} (C : Cl w f news vs k Res)
    {p : Program} {loose : List Str} {mean : ExcName → Option Value} {mg mb : Str → Option Value} {dp un : Nat} {gd : Option (List Code)} {cn : Str} {cs : Scope} {a : Addr} {ccd : Value} {cl : List (Str × Addr)} {outer : List Env} {A₀ : Around} {base h₀ : Heap} {L : Addr} {m : Str → Option Value} {s : Shared} {Q E : Value → Shared → Prop}
    (B : Below A₀ base outer h₀) (F : Fr h₀ L s.heap m) (X : (hd.heap_39 w.params).In h₀) (N : News h₀ L s.heap news) (T : Top p loose mean mg mb h₀) (hk : cs.kind = .function) (hd : dp + k < recursionLimit) (hu : un + 8 * k < cLine)
    (ret : ∀ (v : Value) (h' : Heap) (tk' : Nat), Res v → Fr h₀ L h' m → News h₀ L h' news → Q v { s with heap := h', toks := tk' }) :
    wpAny (model PySem.Challenge.rw_yt0005_01.row.prog w) (ktrTop dp un gd cn cs L a ccd cl outer) (call (.ref f) vs) Q E s := C _ _ _ _ _ _ _ _ _ _ _ _ _ _ _ _ _ _ _ _ _ _ B F X N T hk hd hu ret
abbrev ClG (w : World) (f : Addr) (Pre : Heap → Prop) (news : List (Addr × Obj)) (vs : List Value) (k : Nat) (Res : Value → List (Addr × Obj) → Prop) : Prop :=
  ∀ (p : Program) (loose : List Str) (mean : ExcName → Option Value) (mg mb : Str → Option Value) (dp un : Nat) (gd : Option (List Code)) (cn : Str) (cs : Scope) (a : Addr) (ccd : Value) (cl : List (Str × Addr)) (outer : List Env) (A₀ : Around) (base h₀ : Heap) (L : Addr) (m : Str → Option Value) (s : Shared) (Q E : Value → Shared → Prop),
    Below A₀ base outer h₀ → Fr h₀ L s.heap m → (hd.heap_39 w.params).In h₀ → News h₀ L s.heap news → Top p loose mean mg mb h₀ → cs.kind = .function → Pre base → dp + k < recursionLimit → un + 8 * k < cLine →
    (∀ (v : Value) (news' : List (Addr × Obj)) (h' : Heap) (tk' : Nat), Res v news' → Fr h₀ L h' m → News h₀ L h' news' → Q v { s with heap := h', toks := tk' }) →
    wpAny (model PySem.Challenge.rw_yt0005_01.row.prog w) (ktrTop dp un gd cn cs L a ccd cl outer) (call (.ref f) vs) Q E s
theorem ClG.use {w : World} {f : Addr} {Pre : Heap → Prop} {news : List (Addr × Obj)} {vs : List Value} {k : Nat} {Res : Value → List (Addr × Obj) → Prop} (C : ClG w f Pre news vs k Res)
    {p : Program} {loose : List Str} {mean : ExcName → Option Value} {mg mb : Str → Option Value} {dp un : Nat} {gd : Option (List Code)} {cn : Str} {cs : Scope} {a : Addr} {ccd : Value} {cl : List (Str × Addr)} {outer : List Env} {A₀ : Around} {base h₀ : Heap} {L : Addr} {m : Str → Option Value} {s : Shared} {Q E : Value → Shared → Prop}
    (B : Below A₀ base outer h₀) (F : Fr h₀ L s.heap m) (X : (hd.heap_39 w.params).In h₀) (N : News h₀ L s.heap news) (T : Top p loose mean mg mb h₀) (hk : cs.kind = .function) (hp : Pre base) (hd : dp + k < recursionLimit) (hu : un + 8 * k < cLine)
    (ret : ∀ (v : Value) (news' : List (Addr × Obj)) (h' : Heap) (tk' : Nat), Res v news' → Fr h₀ L h' m → News h₀ L h' news' → Q v { s with heap := h', toks := tk' }) :
    wpAny (model PySem.Challenge.rw_yt0005_01.row.prog w) (ktrTop dp un gd cn cs L a ccd cl outer) (call (.ref f) vs) Q E s := C _ _ _ _ _ _ _ _ _ _ _ _ _ _ _ _ _ _ _ _ _ _ B F X N T hk hp hd hu ret
def Mark (n : Nat) : Prop := n = n
theorem Mark.mk {n : Nat} : Mark n := rfl
end Mine
end
section
open PySem PySem.W PySem.Calls PyProof.Rows PySem.Spec
namespace Mine
set_option maxRecDepth 100000
set_option maxHeartbeats 8000000
set_option pp.maxSteps 300
local macro_rules | `(tactic| walk_at "exec While Compare cons nil") => `(tactic| refine Hold.out ?_)
local macro_rules | `(tactic| walk_at "exec While Constant cons nil") => `(tactic| refine Hold.out ?_)
local macro_rules | `(tactic| walk_at "exec While UnaryOp cons nil") => `(tactic| refine Hold.out ?_)
local macro_rules | `(tactic| walk_at "exec While Name cons nil") => `(tactic| refine Hold.out ?_)
local macro_rules | `(tactic| walk_at "exec For Name Name cons nil") => `(tactic| refine Hold.out ?_)
local macro_rules | `(tactic| walk_at "exec For Name Call cons cons") => `(tactic| refine Hold.out ?_)
local macro_rules | `(tactic| walk_at "exec For Name Call cons nil") => `(tactic| refine Hold.out ?_)
local macro_rules | `(tactic| walk_at "exec For Name Subscript cons nil") => `(tactic| refine Hold.out ?_)
local macro_rules | `(tactic| walk_at "pyIter ref") => `(tactic| refine Hold.out ?_)
local macro_rules | `(tactic| walk_at "pyIter str") => `(tactic| refine Hold.out ?_)
local macro_rules | `(tactic| walk_at "call ref") => `(tactic| refine Hold.out ?_)
local macro_rules | `(tactic| walk_at "CompSrcT") => `(tactic| refine Hold.out ?_)
local macro_rules | `(tactic| walk_at "CompSrc") => `(tactic| refine Hold.out ?_)
local macro_rules | `(tactic| walk_at "CompEnd") => `(tactic| refine Hold.out ?_)
theorem gcd_cl (w : World) (news : List (Addr × Obj)) (a b : Int) (ta tb : Tok) (k : Nat) (r : Int) (hr : gcdF k a.natAbs b.natAbs = some r) :
    Cl w 21 news [.int a ta, .int b tb] 1 (fun v => ∃ t, v = .int r t) := by
  unfold Cl
  k_fill
  w_top off
  intro p loose mean mg mb dp un gd cn cs ad ccd cl outer A₀ base h₀ L m s Q E B F X N T hk hd hu hret
  refine wpAny_call ?_
  k_dflt cell_enter
  k_steps
  refine Hold.mk ?_
  (rename Fr _ _ _ _ => lF'; rename News _ _ _ _ => lN')
  (with_unfolding_all refine' lp_while (σ := Nat × Int × Tok × Int × Tok) (fun _ => news) (fun c => [(Str.ofString "a", Value.int c.2.1 c.2.2.1), (Str.ofString "b", Value.int c.2.2.2.1 c.2.2.2.2)]) (fun c => gcdF c.1 c.2.1 c.2.2.2.1 = some r) (fun c => c.1) (k, _, _, _, _) lF' lN' ?kn ?kk ?kp ?_)
  (case kn => kst_inAny)
  (case kk => kst_all)
  (case kp => (dsimp only; rw [abs_if, abs_if]; exact hr))
  clear lF' lN'
  rintro ⟨k, a, ta, b, tb⟩ u h tk hP F N
  dsimp only at hP F N ⊢
  (try k_fold)
  k_steps
  · (rename News _ _ _ _ => nE')
    have hS := gcdF_step hP (by assumption)
    refine lp_end (k - 1, _, _, _, _) (by assumption) nE' (by kst_inAny) (by kst_all) hS.1 hS.2
  · have e := gcdF_stop hP (by assumption)
    subst e
    exact hret _ _ _ ⟨_, rfl⟩ (by assumption) (by assumption)
end Mine
end
section
open PySem PySem.W PySem.Calls PyProof.Rows PySem.Spec
namespace Mine
set_option maxRecDepth 100000
set_option maxHeartbeats 8000000
set_option pp.maxSteps 300
local macro_rules | `(tactic| walk_at "exec While Compare cons nil") => `(tactic| refine Hold.out ?_)
local macro_rules | `(tactic| walk_at "exec While Constant cons nil") => `(tactic| refine Hold.out ?_)
local macro_rules | `(tactic| walk_at "exec While UnaryOp cons nil") => `(tactic| refine Hold.out ?_)
local macro_rules | `(tactic| walk_at "exec While Name cons nil") => `(tactic| refine Hold.out ?_)
local macro_rules | `(tactic| walk_at "exec For Name Name cons nil") => `(tactic| refine Hold.out ?_)
local macro_rules | `(tactic| walk_at "exec For Name Call cons cons") => `(tactic| refine Hold.out ?_)
local macro_rules | `(tactic| walk_at "exec For Name Call cons nil") => `(tactic| refine Hold.out ?_)
local macro_rules | `(tactic| walk_at "exec For Name Subscript cons nil") => `(tactic| refine Hold.out ?_)
local macro_rules | `(tactic| walk_at "pyIter ref") => `(tactic| refine Hold.out ?_)
local macro_rules | `(tactic| walk_at "pyIter str") => `(tactic| refine Hold.out ?_)
local macro_rules | `(tactic| walk_at "call ref") => `(tactic| refine Hold.out ?_)
local macro_rules | `(tactic| walk_at "CompSrcT") => `(tactic| refine Hold.out ?_)
local macro_rules | `(tactic| walk_at "CompSrc") => `(tactic| refine Hold.out ?_)
local macro_rules | `(tactic| walk_at "CompEnd") => `(tactic| refine Hold.out ?_)
theorem jac_cl (w : World) (news : List (Addr × Obj)) (a n : Int) (ta tb : Tok) (k : Nat) (r : Int) (hn : 0 < n) (ho : n.fmod 2 ≠ 0) (hr : jacF k a n = some r) :
    Cl w 63 news [.int a ta, .int n tb] 1 (fun v => ∃ t, v = .int r t) := by
  unfold Cl
  k_fill
  w_top off
  intro p loose mean mg mb dp un gd cn cs ad ccd cl outer A₀ base h₀ L m s Q E B F X N T hk hd hu hret
  refine wpAny_call ?_
  k_dflt cell_enter
  k_steps
  · exact absurd (by assumption) ho
  · have e := jacF_a hr (.inl (by assumption))
    subst e
    exact hret _ _ _ ⟨_, rfl⟩ (by assumption) (by assumption)
  · have e := jacF_a hr (.inr (by assumption))
    subst e
    exact hret _ _ _ ⟨_, rfl⟩ (by assumption) (by assumption)
  · refine Hold.mk ?_
    have hs := jacF_b hr (by assumption) (by assumption)
    (rename Fr _ _ _ _ => lF'; rename News _ _ _ _ => lN')
    (with_unfolding_all refine' lp_while (σ := Nat × Int × Tok × Int × Tok × Int × Tok) (fun _ => news) (fun c => [(Str.ofString "a", Value.int c.2.1 c.2.2.1), (Str.ofString "n", Value.int c.2.2.2.1 c.2.2.2.2.1), (Str.ofString "t", Value.int c.2.2.2.2.2.1 c.2.2.2.2.2.2)]) (fun c => jacOut c.1 c.2.1 c.2.2.2.1 c.2.2.2.2.2.1 = some r) (fun c => c.1) (k, _, _, _, _, _, _) lF' lN' ?kn ?kk ?kp ?_)
    (case kn => kst_inAny)
    (case kk => kst_all)
    (case kp => exact hs)
    clear lF' lN'
    rintro ⟨k, a, ta, n, tn, t, tt⟩ u h tk hP F N
    dsimp only at hP F N ⊢
    (try k_fold)
    k_steps
    · refine Hold.mk ?_
      obtain ⟨a', t', hi, hs1, hs2, hs3, hlt⟩ := jacOut_step hP (by assumption)
      (rename Fr _ _ _ _ => lF'; rename News _ _ _ _ => lN')
      (with_unfolding_all refine' lp_while (σ := Nat × Int × Tok × Int × Tok) (fun _ => news) (fun c => [(Str.ofString "n", Value.int n tn), (Str.ofString "a", Value.int c.2.1 c.2.2.1), (Str.ofString "t", Value.int c.2.2.2.1 c.2.2.2.2)]) (fun c => jacIn c.1 c.2.1 n c.2.2.2.1 = some (a', t')) (fun c => c.1) (k, _, _, _, _) lF' lN' ?kn ?kk ?kp ?_)
      (case kn => kst_inAny)
      (case kk => kst_all)
      (case kp => exact hi)
      clear lF' lN'
      rintro ⟨k2, a2, ta2, t2, tt2⟩ u h tk hP2 F N
      dsimp only at hP2 F N ⊢
      (try k_fold)
      k_steps
      · exact (bit_zero (by assumption) (by assumption)).elim
      · (rename News _ _ _ _ => nE')
        cases jacIn_stop hP2 (by assumption)
        refine lp_end (k - 1, _, _, _, _, _, _) (by assumption) nE' (by kst_inAny) (by kst_all) (hs1 (by assumption) (by assumption)) hlt
      · exact (bit_zero (by assumption) (by assumption)).elim
      · (rename News _ _ _ _ => nE')
        cases jacIn_stop hP2 (by assumption)
        refine lp_end (k - 1, _, _, _, _, _, _) (by assumption) nE' (by kst_inAny) (by kst_all) (hs2 (by assumption) (by assumption)) hlt
      · exact (bit_zero (by assumption) (by assumption)).elim
      · (rename News _ _ _ _ => nE')
        cases jacIn_stop hP2 (by assumption)
        refine lp_end (k - 1, _, _, _, _, _, _) (by assumption) nE' (by kst_inAny) (by kst_all) (hs3 (by assumption)) hlt
      · (rename News _ _ _ _ => nE')
        have hS := jacIn_step1 hP2 (by assumption) (by assumption)
        refine lp_end (k2 - 1, _, _, _, _) (by assumption) nE' (by kst_inAny) (by kst_all) hS.1 hS.2
      · (rename News _ _ _ _ => nE')
        have hS := jacIn_step2 hP2 (by assumption) (by assumption)
        refine lp_end (k2 - 1, _, _, _, _) (by assumption) nE' (by kst_inAny) (by kst_all) hS.1 hS.2
    · have e := jacOut_stop1 hP (by assumption) (by assumption)
      subst e
      exact hret _ _ _ ⟨_, rfl⟩ (by assumption) (by assumption)
    · have e := jacOut_stop2 hP (by assumption) (by assumption)
      subst e
      exact hret _ _ _ ⟨_, rfl⟩ (by assumption) (by assumption)
end Mine
end
section
open PySem PySem.W PySem.Calls PyProof.Rows PySem.Spec
namespace Mine
set_option maxRecDepth 100000
set_option maxHeartbeats 8000000
set_option pp.maxSteps 300
local macro_rules | `(tactic| walk_at "exec While Compare cons nil") => `(tactic| refine Hold.out ?_)
local macro_rules | `(tactic| walk_at "exec While Constant cons nil") => `(tactic| refine Hold.out ?_)
local macro_rules | `(tactic| walk_at "exec While UnaryOp cons nil") => `(tactic| refine Hold.out ?_)
local macro_rules | `(tactic| walk_at "exec While Name cons nil") => `(tactic| refine Hold.out ?_)
local macro_rules | `(tactic| walk_at "exec For Name Name cons nil") => `(tactic| refine Hold.out ?_)
local macro_rules | `(tactic| walk_at "exec For Name Call cons cons") => `(tactic| refine Hold.out ?_)
local macro_rules | `(tactic| walk_at "exec For Name Call cons nil") => `(tactic| refine Hold.out ?_)
local macro_rules | `(tactic| walk_at "exec For Name Subscript cons nil") => `(tactic| refine Hold.out ?_)
local macro_rules | `(tactic| walk_at "pyIter ref") => `(tactic| refine Hold.out ?_)
local macro_rules | `(tactic| walk_at "pyIter str") => `(tactic| refine Hold.out ?_)
local macro_rules | `(tactic| walk_at "call ref") => `(tactic| refine Hold.out ?_)
local macro_rules | `(tactic| walk_at "CompSrcT") => `(tactic| refine Hold.out ?_)
local macro_rules | `(tactic| walk_at "CompSrc") => `(tactic| refine Hold.out ?_)
local macro_rules | `(tactic| walk_at "CompEnd") => `(tactic| refine Hold.out ?_)
theorem inv_cl (w : World) (news : List (Addr × Obj)) (a m : Int) (ta tb : Tok) (k : Nat) (r : Int) (hm : 0 < m) (hr : invF k a m = some r) :
    Cl w 40 news [.int a ta, .int m tb] 1 (fun v => ∃ t, v = .int r t) := by
  unfold Cl
  k_fill
  w_top off
  intro p loose mean mg mb dp un gd cn cs ad ccd cl outer A₀ base h₀ L m0 s Q E B F X N T hk hd hu hret
  refine wpAny_call ?_
  k_dflt cell_enter
  obtain ⟨x, hl, hx⟩ := invF_loop hr
  k_steps
  · refine Hold.mk ?_
    (rename Fr _ _ _ _ => lF'; rename News _ _ _ _ => lN')
    (with_unfolding_all refine' lp_while (σ := Nat × Int × Tok × Int × Tok × Int × Tok × Int × Tok) (fun _ => news) (fun c => [(Str.ofString "M", Value.int m tb), (Str.ofString "a", Value.int c.2.1 c.2.2.1), (Str.ofString "m", Value.int c.2.2.2.1 c.2.2.2.2.1), (Str.ofString "r", Value.int c.2.2.2.2.2.1 c.2.2.2.2.2.2.1), (Str.ofString "x", Value.int c.2.2.2.2.2.2.2.1 c.2.2.2.2.2.2.2.2)]) (fun c => invLoop c.1 c.2.1 c.2.2.2.1 c.2.2.2.2.2.1 c.2.2.2.2.2.2.2.1 = some (1, x)) (fun c => c.1) (k, _, _, _, _, _, _, _, _) lF' lN' ?kn ?kk ?kp ?_)
    (case kn => kst_inAny)
    (case kk => kst_all)
    (case kp => exact hl)
    clear lF' lN'
    rintro ⟨k, a, ta, m', tm, r', tr, x', tx⟩ u h tk hP F N
    dsimp only at hP F N ⊢
    (try k_fold)
    have hst := fun hm => invLoop_step hP hm
    k_with "execs cons" =>
      have hne : m' ≠ 0 := by with_reducible assumption
      have hst2 := hst hne
      clear hst
      obtain ⟨hpy, hok, hS, hlt⟩ := hst2
      refine wpAny_execs_cons ?_
    k_with "binaryOp FloorDiv int int" => refine floordiv_int hne ?_ (Or.inl hpy)
    k_steps
    · (rename News _ _ _ _ => nE')
      refine lp_end (k - 1, _, _, _, _, _, _, _, _) (by assumption) nE' (by kst_inAny) (by kst_all) (by assumption) (by assumption)
    · cases invLoop_stop hP (by with_reducible assumption)
      subst hx
      exact hret _ _ _ ⟨_, rfl⟩ (by assumption) (by assumption)
    · cases invLoop_stop hP (by with_reducible assumption)
      exact absurd rfl (by with_reducible assumption)
end Mine
end
section
open PySem PySem.W PySem.Calls PyProof.Rows PySem.Spec
namespace Mine
set_option maxRecDepth 100000
set_option maxHeartbeats 8000000
set_option pp.maxSteps 300
local macro_rules | `(tactic| walk_at "exec While Compare cons nil") => `(tactic| refine Hold.out ?_)
local macro_rules | `(tactic| walk_at "exec While Constant cons nil") => `(tactic| refine Hold.out ?_)
local macro_rules | `(tactic| walk_at "exec While UnaryOp cons nil") => `(tactic| refine Hold.out ?_)
local macro_rules | `(tactic| walk_at "exec While Name cons nil") => `(tactic| refine Hold.out ?_)
local macro_rules | `(tactic| walk_at "exec For Name Name cons nil") => `(tactic| refine Hold.out ?_)
local macro_rules | `(tactic| walk_at "exec For Name Call cons cons") => `(tactic| refine Hold.out ?_)
local macro_rules | `(tactic| walk_at "exec For Name Call cons nil") => `(tactic| refine Hold.out ?_)
local macro_rules | `(tactic| walk_at "exec For Name Subscript cons nil") => `(tactic| refine Hold.out ?_)
local macro_rules | `(tactic| walk_at "pyIter ref") => `(tactic| refine Hold.out ?_)
local macro_rules | `(tactic| walk_at "pyIter str") => `(tactic| refine Hold.out ?_)
local macro_rules | `(tactic| walk_at "call ref") => `(tactic| refine Hold.out ?_)
local macro_rules | `(tactic| walk_at "CompSrcT") => `(tactic| refine Hold.out ?_)
local macro_rules | `(tactic| walk_at "CompSrc") => `(tactic| refine Hold.out ?_)
local macro_rules | `(tactic| walk_at "CompEnd") => `(tactic| refine Hold.out ?_)
theorem isp_cl (w : World) (news : List (Addr × Obj)) (n : Int) (tn : Tok) (l : Addr) (vs : List Value) (ns : List Int) (nn : Nat) (k : Nat) (r : Bool) (hm : (l, listOf vs.toArray nn) ∈ news) (hi : IntsAre vs ns)
    (hns : ∀ p ∈ ns, 0 < p ∧ p < 2 ^ 64) (hr : primeF k n ns = some r) :
    Cl w 72 news [.int n tn, .ref l] 2 (fun v => v = .bool r) := by
  unfold Cl
  k_fill
  w_top off
  intro p loose mean mg mb dp un gd cn cs ad ccd cl outer A₀ base h₀ L m s Q E B F X N T hk hd hu hret
  refine wpAny_call ?_
  k_dflt ((refine' code_def ?k1 ?k2 ?k3 ?k4 ?k5 ?kA ?kF ?kK ?k6 ?k7 ?k8 ?k9 ?kB ?_ ?c2 ?c3 ?c4 ?c5; (case kA => exact rfl); (case kF => exact rfl); (case kK => assumption); (case k1 => k_asm); (case k2 => k_asm); (case k3 => k_asm); (case k4 => k_asm); (case k5 => k_asm); (case k6 => k_is); (case k7 => k_is); (case k8 => ktr_room); (case k9 => exact binds_K (by k_in) rfl (by k_is) rfl rfl rfl); (case c5 => decide); (case kB => exact locs rfl); (case c2 => exact rfl); (case c3 => exact rfl); (case c4 => exact rfl); k_whole; intro g' L' h' FG' F' N' B' X' T'; (try dsimp only); (try k_lift B'); (try k_fold)))
  obtain ⟨hp1, hp2, hp3⟩ := primeF_of hr
  k_steps
  · rw [hp1 (by assumption)] at hret
    exact hret _ _ _ rfl (by assumption) (by assumption)
  · rw [hp2 (by assumption)] at hret
    exact hret _ _ _ rfl (by assumption) (by assumption)
  have hodd : n.fmod 2 ≠ 0 := by assumption
  obtain ⟨hp4, hp5⟩ := hp3 (by assumption) (by assumption)
  refine Hold.mk (lp_for ?_ (fun _ => rfl))
  k_steps
  refine Hold.mk ?_
  (rename Fr _ _ _ _ => lF'; rename News _ _ _ _ => lN')
  refine lf_list (σ := Unit) (adr := news.map (·.1)) (fun _ => news) (fun _ => [(Str.ofString "n", Value.int n tn)]) (fun pre _ => ∀ q ∈ pre, n.fmod q ≠ 0) () (fun _ => rfl) rfl (fun _ => hm) hi rfl rfl lF' lN' (by kst_inAny) (by kst_all) (by simp) ?_ ?_ (by passes_own)
  · clear lF' lN'
    intro pre p9 post c t9 u9 h9 tk9 own9 e9 hoff hP F9 N9
    replace F9 : Fr g' L' h9 _ := F9
    replace N9 : News g' L' h9 _ := N9
    have hpp := hns p9 (by rw [e9]; simp)
    have hp0 : p9 ≠ 0 := by omega
    k_steps
    · refine lf_ret ?_
      k_steps
      rw [hp4 pre p9 post e9 hP (by assumption)] at hret
      exact hret _ _ _ rfl (by assumption) (cb_drop (news' := news ++ own9) (by assumption) (fun _ h => List.mem_append_left _ h))
    · refine lf_end () F9 N9 (fun _ h => List.mem_append_left _ h) (fun _ h => List.mem_append_right _ h) (by kst_all) ?_
      intro q hq
      rcases List.mem_append.mp hq with hq | hq
      · exact hP q hq
      · rw [List.mem_singleton.mp hq]; assumption
  clear lF' lN'
  intro c u9 h9 tk9 hP F9 N9
  replace F9 : Fr g' L' h9 _ := F9
  replace N9 : News g' L' h9 _ := N9
  obtain ⟨hn64, hb⟩ := hp5 hP
  clear hp4 hp5 hP hp1 hp2 hp3
  obtain ⟨bb, hs0, hsF, hsT⟩ := bpswF_of hb
  obtain ⟨t1, s1, htw, ht0, hs1, hs1000, hst1, hst2, hst3⟩ := strongF_of hs0
  k_steps
  refine Hold.mk ?_
  (rename Fr _ _ _ _ => lF'; rename News _ _ _ _ => lN')
  (with_unfolding_all refine' lp_while (σ := Nat × Int × Tok × Int × Tok) (fun _ => news) (fun c => [(Str.ofString "n", Value.int n tn), (Str.ofString "t", Value.int c.2.1 c.2.2.1), (Str.ofString "s", Value.int c.2.2.2.1 c.2.2.2.2)]) (fun c => twosF c.1 c.2.1 c.2.2.2.1 = some (t1, s1)) (fun c => c.1) (k, _, _, _, _) lF' lN' ?kn ?kk ?kp ?_)
  (case kn => kst_inAny)
  (case kk => kst_all)
  (case kp => exact htw)
  clear lF' lN'
  rintro ⟨k1, t2, tt2, s2, ts2⟩ u h tk hP F N
  dsimp only at hP F N ⊢
  (try k_fold)
  have hmk : Mark 1 := Mark.mk
  k_with "exec If BoolOp cons nil" => (clear hmk; refine Hold.out ?_)
  k_with "call builtin:pow" => first | refine call_pow3 (by omega) (by omega) ?_ | (cases twosF_stop hP (by with_reducible assumption); refine call_pow3 (by omega) (by omega) ?_)
  k_steps
  · (rename News _ _ _ _ => nE')
    have hS := twosF_step hP (by assumption)
    refine lp_end (k1 - 1, _, _, _, _) (by assumption) nE' (by kst_inAny) (by kst_all) hS.1 hS.2
  cases twosF_stop hP (by with_reducible assumption)
  clear hP
  refine Hold.mk ?_
  (rename Fr _ _ _ _ => lF0; rename News _ _ _ _ => lN0)
  refine cut_next (σ := Unit) (fun _ => news) (fun _ => [(Str.ofString "n", Value.int n tn)]) (fun _ => bb = true) lF0 ?_ ?_
  · k_steps
    · refine Hold.mk (lp_for ?_ (fun _ => rfl))
      have hsp := hst3 (by assumption) (by assumption)
      k_steps
      refine Hold.mk ?_
      (rename Fr _ _ _ _ => lF'; rename News _ _ _ _ => lN'; rename IsRange _ _ _ _ _ _ _ _ => rgX)
      refine lf_range (σ := Int × Tok) (adr := news.map (·.1)) (fun _ => news) (fun c => [(Str.ofString "n", Value.int n tn), (Str.ofString "x", Value.int c.1 c.2)]) (fun i c => sprpF ((s1 - 1).toNat - i) n c.1 = bb) (powF 2 t1 n, _) (fun _ => rfl) rfl rgX (small_one (by omega) (by omega) (by omega) (by omega)) (rangeSize_nat _ _) rfl rfl lF' lN' (by kst_inAny) (by kst_all) hsp ?_ ?_ (by passes_own)
      · clear lF' lN' rgX
        rintro i ⟨x9, tx9⟩ t9 u9 h9 tk9 own9 hi9 hoff hP9 F9 N9
        replace F9 : Fr g' L' h9 _ := F9
        replace N9 : News g' L' h9 _ := N9
        obtain ⟨hq1, hq2, hq3⟩ := sprpF_step hP9 (by omega)
        dsimp only at hq1 hq2 hq3 F9
        k_steps
        · refine lf_ret ?_
          dsimp only
          k_steps
          cases hsF (hq1 (by assumption))
          exact hret _ _ _ rfl (by assumption) (cb_drop (news' := news ++ own9) (by assumption) (fun _ h => List.mem_append_left _ h))
        · refine lf_brk ?_
          dsimp only
          k_steps
          (rename News _ _ _ _ => nE')
          exact cut_end () (by assumption) nE' (fun _ h => List.mem_append_left _ h) (by kst_all) (hq2 (by assumption) (by assumption))
        · (rename News _ _ _ _ => nE')
          exact lf_end (powF x9 2 n, _) (by assumption) nE' (fun _ h => List.mem_append_left _ h) (fun _ h => List.mem_append_right _ h) (by kst_all) (hq3 (by assumption) (by assumption))
      · clear lF' lN' rgX
        rintro ⟨x9, tx9⟩ u9 h9 tk9 hP9 F9 N9
        replace F9 : Fr g' L' h9 _ := F9
        replace N9 : News g' L' h9 _ := N9
        have hbF : bb = false := by rw [Nat.sub_self] at hP9; exact hP9.symm
        k_steps
        cases hsF hbF
        exact hret _ _ _ rfl (by assumption) (by assumption)
    all_goals (rename News _ _ _ _ => nE')
    · exact cut_end () (by assumption) nE' (by kst_inAny) (by kst_all) (hst2 (by assumption))
    · exact cut_end () (by assumption) nE' (by kst_inAny) (by kst_all) (hst1 (by assumption))
  clear lF0 lN0
  intro _ u9 h9 tk9 hbb F9 N9
  obtain ⟨d9, hd9, hdl, hdr⟩ := hsT hbb
  clear hst1 hst2 hst3 hsF hsT
  k_steps
  refine Hold.mk ?_
  (rename Fr _ _ _ _ => lF'; rename News _ _ _ _ => lN')
  refine cut_next (σ := Int × Tok) (fun _ => news) (fun c => [(Str.ofString "n", Value.int n tn), (Str.ofString "D", Value.int c.1 c.2)]) (fun c => lucasF k n c.1 = some r) lF' ?_ ?_
  · (with_unfolding_all refine' lp_while (σ := Nat × Int × Tok) (fun _ => news) (fun c => [(Str.ofString "n", Value.int n tn), (Str.ofString "c", Value.int c.2.1 c.2.2)]) (fun c => dF k c.1 n c.2.1 = some d9) (fun c => c.1) (k, _, _) lF' lN' ?kn ?kk ?kp ?_)
    (case kn => kst_inAny)
    (case kk => kst_all)
    (case kp => exact hd9)
    clear lF' lN'
    rintro ⟨k1, c1, tc1⟩ u h tk hP F N
    dsimp only at hP F N ⊢
    (try k_fold)
    obtain ⟨j1, j2, hj1, hj2, hj3, hj4, hj5, hj6, hj7, hj8⟩ := dF_step hP
    k_steps
    (refine Hold.mk ?_; with_unfolding_all refine' Cl.use (jac_cl w _ _ n _ tn k j1 (by omega) hodd hj1) ?k1c2 ?k2c2 ?k3c2 ?k4c2 ?k5c2 ?kKc2 ?kdc2 ?kuc2 ?kRc2; (case k1c2 => k_asm); (case k2c2 => k_asm); (case k3c2 => k_asm); (case k4c2 => k_asm); (case k5c2 => k_asm); (case kKc2 => exact rfl); (try (case kMc2 => k_mem)); (case kdc2 => ktr_room); (case kuc2 => ktr_units); intro v9 h9 tk9 hv9 F9 N9; (try dsimp only); (try k_fold))
    obtain ⟨tj9, rfl⟩ := hv9
    k_steps
    · refine lp_ret ?_
      k_steps
      cases hdl _ (hj2 (by assumption))
      exact hret _ _ _ rfl (by assumption) (by assumption)
    · refine lp_brk ?_
      dsimp only
      (rename News _ _ _ _ => nE')
      exact cut_end (_, _) (by assumption) nE' (by kst_inAny) (by kst_all) (hdr _ (hj3 (by assumption)))
    have hjA := hj4 (by assumption) (by assumption)
    (refine Hold.mk ?_; with_unfolding_all refine' Cl.use (jac_cl w _ _ n _ tn k j2 (by omega) hodd hjA) ?k1c3 ?k2c3 ?k3c3 ?k4c3 ?k5c3 ?kKc3 ?kdc3 ?kuc3 ?kRc3; (case k1c3 => k_asm); (case k2c3 => k_asm); (case k3c3 => k_asm); (case k4c3 => k_asm); (case k5c3 => k_asm); (case kKc3 => exact rfl); (try (case kMc3 => k_mem)); (case kdc3 => ktr_room); (case kuc3 => ktr_units); intro v9 h9 tk9 hv9 F9 N9; (try dsimp only); (try k_fold))
    obtain ⟨tj8, rfl⟩ := hv9
    k_steps
    · refine lp_ret ?_
      k_steps
      cases hdl _ (hj5 (by assumption) (by assumption) (by assumption))
      exact hret _ _ _ rfl (by assumption) (by assumption)
    · refine lp_brk ?_
      dsimp only
      (rename News _ _ _ _ => nE')
      exact cut_end (_, _) (by assumption) nE' (by kst_inAny) (by kst_all) (hdr _ (hj6 (by assumption) (by assumption) (by assumption)))
    · exact absurd (by assumption) (hj7 (by assumption) (by assumption) (by assumption) (by assumption)).1
    · (rename News _ _ _ _ => nE')
      exact lp_end (k1 - 1, _, _) (by assumption) nE' (by kst_inAny) (by kst_all) (hj7 (by assumption) (by assumption) (by assumption) (by assumption)).2 hj8
  clear lF' lN'
  rintro ⟨D, tD⟩ u9 h9 tk9 hD F9 N9
  clear hd9 hdl hdr hbb hs0 htw ht0 hs1 hs1000
  dsimp only at hD F9
  obtain ⟨g1, hg1, hg2, hg3⟩ := lucasF_of hD
  have hmk : Mark 2 := Mark.mk
  k_with "exec If Compare cons nil" => (clear hmk; refine Hold.out ?_)
  k_steps
  refine Hold.mk ?_
  (rename Fr _ _ _ _ => lF'; rename News _ _ _ _ => lN')
  refine cut_next (σ := Tok) (fun _ => news) (fun c => [(Str.ofString "n", Value.int n tn), (Str.ofString "D", Value.int D tD), (Str.ofString "b", Value.int ((1 - D).fdiv 4) c)]) (fun _ => ¬ (1 < g1 ∧ g1 < n)) lF' ?_ ?_
  · k_steps
    (refine Hold.mk ?_; with_unfolding_all refine' Cl.use (gcd_cl w _ n _ tn _ k g1 hg1) ?k1c4 ?k2c4 ?k3c4 ?k4c4 ?k5c4 ?kKc4 ?kdc4 ?kuc4 ?kRc4; (case k1c4 => k_asm); (case k2c4 => k_asm); (case k3c4 => k_asm); (case k4c4 => k_asm); (case k5c4 => k_asm); (case kKc4 => exact rfl); (try (case kMc4 => k_mem)); (case kdc4 => ktr_room); (case kuc4 => ktr_units); intro v9 h9 tk9 hv9 F9 N9; (try dsimp only); (try k_fold))
    obtain ⟨tg, rfl⟩ := hv9
    k_steps
    · cases hg2 (by assumption) (by assumption)
      exact hret _ _ _ rfl (by assumption) (by assumption)
    all_goals (rename News _ _ _ _ => nE')
    · exact cut_end _ (by assumption) nE' (by kst_inAny) (by kst_all) (fun h => absurd h.2 (by assumption))
    · exact cut_end _ (by assumption) nE' (by kst_inAny) (by kst_all) (fun h => absurd h.1 (by assumption))
  · clear lF' lN'
    intro tb9 u9 h9 tk9 hg F9 N9
    obtain ⟨t1, s1, v1, w1, htw, ht0, ht64, hs1, hs1000, hbS, hlu, hv0, hvn⟩ := hg3 hg
    clear hg1 hg2 hg3 hg
    k_steps
    refine Hold.mk ?_
    (rename Fr _ _ _ _ => lF'; rename News _ _ _ _ => lN')
    (with_unfolding_all refine' lp_while (σ := Nat × Int × Tok × Int × Tok) (fun _ => news) (fun c => [(Str.ofString "n", Value.int n tn), (Str.ofString "D", Value.int D tD), (Str.ofString "b", Value.int ((1 - D).fdiv 4) tb9), (Str.ofString "t", Value.int c.2.1 c.2.2.1), (Str.ofString "s", Value.int c.2.2.2.1 c.2.2.2.2)]) (fun c => twosF c.1 c.2.1 c.2.2.2.1 = some (t1, s1)) (fun c => c.1) (k, _, _, _, _) lF' lN' ?kn ?kk ?kp ?_)
    (case kn => kst_inAny)
    (case kk => kst_all)
    (case kp => exact htw)
    clear lF' lN'
    rintro ⟨k1, t2, tt2, s2, ts2⟩ u h tk hP F N
    dsimp only at hP F N ⊢
    (try k_fold)
    k_steps
    · (rename News _ _ _ _ => nE')
      have hS := twosF_step hP (by assumption)
      refine lp_end (k1 - 1, _, _, _, _) (by assumption) nE' (by kst_inAny) (by kst_all) hS.1 hS.2
    cases twosF_stop hP (by with_reducible assumption)
    clear hP
    refine Hold.mk (lp_for ?_ (fun _ => rfl))
    k_steps
    refine Hold.mk ?_
    have hcb := codes_bin t1 (by omega)
    (rename Fr _ _ _ _ => lF'; rename News _ _ _ _ => lN')
    refine lf_text (σ := (Int × Tok) × (Int × Tok) × (Int × Tok) × (Int × Tok)) (adr := news.map (·.1)) (fun _ => news)
      (fun c => [(Str.ofString "n", Value.int n tn), (Str.ofString "D", Value.int D tD), (Str.ofString "b", Value.int ((1 - D).fdiv 4) tb9), (Str.ofString "t", Value.int t1 tt2), (Str.ofString "s", Value.int s1 ts2), (Str.ofString "v", Value.int c.1.1 c.1.2), (Str.ofString "w", Value.int c.2.1.1 c.2.1.2), (Str.ofString "q", Value.int c.2.2.1.1 c.2.2.1.2), (Str.ofString "Q", Value.int c.2.2.2.1 c.2.2.2.2)])
      (fun pre c => ∃ post, bitsF t1 = pre ++ post ∧ lucF n ((1 - D).fdiv 4) post c.1.1 c.2.1.1 c.2.2.1.1 c.2.2.2.1 = some (v1, w1)) ((2, _), (1, _), (1, _), (1, _)) (fun _ => rfl) rfl rfl rfl lF' lN' (by kst_inAny) (by kst_all) ⟨_, (List.nil_append _).symm, hlu⟩ ?_ ?_ (by passes_own)
    · clear lF' lN'
      rintro pre post d9 ⟨⟨v2, tv2⟩, ⟨w2, tw2⟩, ⟨q2, tq2⟩, ⟨Q2, tQ2⟩⟩ t9 u9 h9 tk9 own9 e9 hoff ⟨post2, hpo, hlu2⟩ F9 N9
      replace F9 : Fr g' L' h9 _ := F9
      replace N9 : News g' L' h9 _ := N9
      rw [hcb, hpo] at e9
      cases List.append_cancel_left e9
      dsimp only at hlu2 F9
      obtain ⟨hlv, hlw, hlq, hlq', hlA, hlB⟩ := lucF_step hlu2
      have hm1 := hlq.left Q2
      have hm2 := hlq'.left ((1 - D).fdiv 4)
      have hm3 := hlw.left v2
      have hm4 := hlw.left w2
      have hm5 := hlq'.right 2
      have hm6 := hbS.right (2 * (q2 * Q2).fmod n)
      have hm7 := hlv.left v2
      have hn0 : n ≠ 0 := by omega
      k_steps
      · (rename News _ _ _ _ => nE')
        have h49 := code_one.mp (eq_of_beq (by assumption))
        exact lf_end ((_, _), (_, _), (_, _), (_, _)) (by assumption) nE' (fun _ h => List.mem_cons_of_mem _ (List.mem_append_left _ h)) (fun _ h => List.mem_cons_of_mem _ (List.mem_append_right _ h)) (by kst_all) ⟨post, by rw [hpo]; simp, hlA h49⟩
      · (rename News _ _ _ _ => nE')
        have h49 : (d9 : Int) ≠ 49 := fun e => absurd (code_one.mpr e) (ne_of_beq_false (by assumption))
        exact lf_end ((_, _), (_, _), (_, _), (_, _)) (by assumption) nE' (fun _ h => List.mem_cons_of_mem _ (List.mem_append_left _ h)) (fun _ h => List.mem_cons_of_mem _ (List.mem_append_right _ h)) (by kst_all) ⟨post, by rw [hpo]; simp, hlB h49⟩
    · clear lF' lN'
      rintro ⟨⟨v2, tv2⟩, ⟨w2, tw2⟩, ⟨q2, tq2⟩, ⟨Q2, tQ2⟩⟩ u9 h9 tk9 ⟨post2, hpo, hlu2⟩ F9 N9
      replace F9 : Fr g' L' h9 _ := F9
      replace N9 : News g' L' h9 _ := N9
      rw [hcb] at hpo
      have hpo2 : post2 = [] := by simpa using hpo
      subst hpo2
      rw [lucF] at hlu2
      injection hlu2 with hlu3
      injection hlu3 with hlu4 hlu5
      dsimp only at hlu4 hlu5 F9
      subst hlu4 hlu5
      k_steps
      · cases hv0 (by assumption)
        exact hret _ _ _ rfl (by assumption) (by assumption)
      obtain ⟨i1, hi1, hSi, hi2, hi3⟩ := hvn (by assumption)
      clear hvn hv0 hlu
      (refine Hold.mk ?_; with_unfolding_all refine' Cl.use (inv_cl w _ D n tD tn k i1 (by omega) hi1) ?k1c5 ?k2c5 ?k3c5 ?k4c5 ?k5c5 ?kKc5 ?kdc5 ?kuc5 ?kRc5; (case k1c5 => k_asm); (case k2c5 => k_asm); (case k3c5 => k_asm); (case k4c5 => k_asm); (case k5c5 => k_asm); (case kKc5 => exact rfl); (try (case kMc5 => k_mem)); (case kdc5 => ktr_room); (case kuc5 => ktr_units); intro v9 h9 tk9 hv9 F9 N9; (try dsimp only); (try k_fold))
      obtain ⟨ti9, rfl⟩ := hv9
      have hm8 := hSi.right (2 * w2 - v2)
      k_steps
      · cases hi2 (by assumption)
        exact hret _ _ _ rfl (by assumption) (by assumption)
      have hfin := hi3 (by assumption)
      refine Hold.mk (lp_for ?_ (fun _ => rfl))
      k_steps
      refine Hold.mk ?_
      (rename Fr _ _ _ _ => lF'; rename News _ _ _ _ => lN'; rename IsRange _ _ _ _ _ _ _ _ => rgX)
      refine lf_range (σ := (Int × Tok) × (Int × Tok)) (adr := news.map (·.1)) (fun _ => news) (fun c => [(Str.ofString "n", Value.int n tn), (Str.ofString "v", Value.int c.1.1 c.1.2), (Str.ofString "q", Value.int c.2.1 c.2.2)]) (fun i c => finF ((s1 - 1).toNat - i) n c.1.1 c.2.1 = some r) ((_, _), (_, _)) (fun _ => rfl) rfl rgX (small_one (by omega) (by omega) (by omega) (by omega)) (rangeSize_nat _ _) rfl rfl lF' lN' (by kst_inAny) (by kst_all) hfin ?_ ?_ (by passes_own)
      · clear lF' lN' rgX
        rintro i ⟨⟨v3, tv3⟩, ⟨q3, tq3⟩⟩ t9 u9 h9 tk9 own9 hi9 hoff hP9 F9 N9
        replace F9 : Fr g' L' h9 _ := F9
        replace N9 : News g' L' h9 _ := N9
        obtain ⟨hs1', hs2', hq1, hq2⟩ := finF_step hP9 (by omega)
        dsimp only at hs1' hs2' hq1 hq2 F9
        have hm1 := hs1'.left v3
        have hm2 := hs2'.right 2
        have hm3 := hs2'.left q3
        have hn0 : n ≠ 0 := by omega
        k_steps
        · refine lf_ret ?_
          dsimp only
          k_steps
          cases hq1 (by assumption)
          exact hret _ _ _ rfl (by assumption) (cb_drop (news' := news ++ own9) (by assumption) (fun _ h => List.mem_append_left _ h))
        · (rename News _ _ _ _ => nE')
          exact lf_end ((_, _), (_, _)) (by assumption) nE' (fun _ h => List.mem_append_left _ h) (fun _ h => List.mem_append_right _ h) (by kst_all) (hq2 (by assumption))
      · clear lF' lN' rgX
        rintro ⟨⟨v3, tv3⟩, ⟨q3, tq3⟩⟩ u9 h9 tk9 hP9 F9 N9
        replace F9 : Fr g' L' h9 _ := F9
        replace N9 : News g' L' h9 _ := N9
        rw [Nat.sub_self, finF] at hP9
        cases Option.some.inj hP9
        k_steps
        exact hret _ _ _ rfl (by assumption) (by assumption)
end Mine
end
section
open PySem PySem.W PySem.Calls PyProof.Rows PySem.Spec
namespace Mine
set_option maxRecDepth 100000
set_option maxHeartbeats 8000000
set_option pp.maxSteps 300
local macro_rules | `(tactic| walk_at "exec While Compare cons nil") => `(tactic| refine Hold.out ?_)
local macro_rules | `(tactic| walk_at "exec While Constant cons nil") => `(tactic| refine Hold.out ?_)
local macro_rules | `(tactic| walk_at "exec While UnaryOp cons nil") => `(tactic| refine Hold.out ?_)
local macro_rules | `(tactic| walk_at "exec While Name cons nil") => `(tactic| refine Hold.out ?_)
local macro_rules | `(tactic| walk_at "exec For Name Name cons nil") => `(tactic| refine Hold.out ?_)
local macro_rules | `(tactic| walk_at "exec For Name Call cons cons") => `(tactic| refine Hold.out ?_)
local macro_rules | `(tactic| walk_at "exec For Name Call cons nil") => `(tactic| refine Hold.out ?_)
local macro_rules | `(tactic| walk_at "exec For Name Subscript cons nil") => `(tactic| refine Hold.out ?_)
local macro_rules | `(tactic| walk_at "pyIter ref") => `(tactic| refine Hold.out ?_)
local macro_rules | `(tactic| walk_at "pyIter str") => `(tactic| refine Hold.out ?_)
local macro_rules | `(tactic| walk_at "call ref") => `(tactic| refine Hold.out ?_)
local macro_rules | `(tactic| walk_at "CompSrcT") => `(tactic| refine Hold.out ?_)
local macro_rules | `(tactic| walk_at "CompSrc") => `(tactic| refine Hold.out ?_)
local macro_rules | `(tactic| walk_at "CompEnd") => `(tactic| refine Hold.out ?_)
local macro_rules | `(tactic| walk_at "eval Call") => `(tactic| k_dflt (refine Call_ ?_))
theorem one_cl (w : World) (news : List (Addr × Obj)) (l : Addr) (vs : List Value) (ns : List Int) (i : Int) (ti : Tok) (hI : IntsAre vs ns) (hn : ns.length < 64) (h0 : 0 ≤ i) (h1 : i < 64) :
    ClG w 80 (fun base => base.IsList l vs.toArray) news [.ref l, .int i ti] 1 (fun v news' => news' = news ∧ ∃ x t, v = .int x t) := by
  unfold ClG
  k_fill
  w_top off
  intro p loose mean mg mb dp un gd cn cs ad ccd cl outer A₀ base h₀ L m s Q E B F X N T hk hP hd hu hret
  refine wpAny_call ?_
  k_dflt cell_enter
  k_steps
  all_goals exact hret _ _ _ _ ⟨rfl, _, _, rfl⟩ (by assumption) (by assumption)
theorem draw_cl (w : World) (news : List (Addr × Obj)) (l : Addr) (vs : List Value) (ns : List Int) (i : Int) (ti : Tok) (d : Int) (td : Tok) (hI : IntsAre vs ns) (hn : ns.length < 64) (h0 : 0 ≤ i) (h1 : i < 64) (hd0 : 0 < d) :
    ClG w 87 (fun base => base.IsList l vs.toArray) news [.ref l, .int i ti, .int d td] 2 (fun v news' => news' = news ∧ ∃ x t, v = .int x t ∧ 0 ≤ x ∧ x < d) := by
  unfold ClG
  k_fill
  w_top off
  intro p loose mean mg mb dp un gd cn cs ad ccd cl outer A₀ base h₀ L m s Q E B F X N T hk hP hd hu hret
  refine wpAny_call ?_
  k_dflt cell_enter
  k_steps
  (refine Hold.mk ?_; with_unfolding_all refine' ClG.use (one_cl w _ l vs ns i ti hI hn h0 h1) ?k1c1 ?k2c1 ?k3c1 ?k4c1 ?k5c1 ?kKc1 ?kPc1 ?kdc1 ?kuc1 ?kRc1; (case k1c1 => k_asm); (case k2c1 => k_asm); (case k3c1 => k_asm); (case k4c1 => k_asm); (case k5c1 => k_asm); (case kKc1 => exact rfl); (case kPc1 => assumption); (case kdc1 => ktr_room); (case kuc1 => ktr_units); intro v9 nw9 h9 tk9 hv9 F9 N9; (try dsimp only); (try k_fold))
  obtain ⟨rfl, x, tx, rfl⟩ := hv9
  have hd1 : d ≠ 0 := by omega
  k_steps
  exact hret _ _ _ _ ⟨rfl, _, _, rfl, Int.fmod_nonneg_of_pos _ hd0, Int.fmod_lt_of_pos _ hd0⟩ (by assumption) (by assumption)
end Mine
end
section
open PySem PySem.W PySem.Calls PyProof.Rows PySem.Spec
namespace Mine
set_option maxRecDepth 100000
set_option maxHeartbeats 8000000
set_option pp.maxSteps 300
local macro_rules | `(tactic| walk_at "exec While Compare cons nil") => `(tactic| refine Hold.out ?_)
local macro_rules | `(tactic| walk_at "exec While Constant cons nil") => `(tactic| refine Hold.out ?_)
local macro_rules | `(tactic| walk_at "exec While UnaryOp cons nil") => `(tactic| refine Hold.out ?_)
local macro_rules | `(tactic| walk_at "exec While Name cons nil") => `(tactic| refine Hold.out ?_)
local macro_rules | `(tactic| walk_at "exec For Name Name cons nil") => `(tactic| refine Hold.out ?_)
local macro_rules | `(tactic| walk_at "exec For Name Call cons cons") => `(tactic| refine Hold.out ?_)
local macro_rules | `(tactic| walk_at "exec For Name Call cons nil") => `(tactic| refine Hold.out ?_)
local macro_rules | `(tactic| walk_at "exec For Name Subscript cons nil") => `(tactic| refine Hold.out ?_)
local macro_rules | `(tactic| walk_at "pyIter ref") => `(tactic| refine Hold.out ?_)
local macro_rules | `(tactic| walk_at "pyIter str") => `(tactic| refine Hold.out ?_)
local macro_rules | `(tactic| walk_at "call ref") => `(tactic| refine Hold.out ?_)
local macro_rules | `(tactic| walk_at "CompSrcT") => `(tactic| refine Hold.out ?_)
local macro_rules | `(tactic| walk_at "CompSrc") => `(tactic| refine Hold.out ?_)
local macro_rules | `(tactic| walk_at "CompEnd") => `(tactic| refine Hold.out ?_)
theorem prime_cl (w : World) (news : List (Addr × Obj)) (n : Int) (tn : Tok) :
    Cl w 99 news [.int n tn] 1 (fun v => v = .bool (lawPrime 10 n)) := by
  unfold Cl
  k_fill
  w_top off
  intro p loose mean mg mb dp un gd cn cs ad ccd cl outer A₀ base h₀ L m s Q E B F X N T hk hd hu hret
  refine wpAny_call ?_
  k_dflt cell_enter
  obtain ⟨r, hr⟩ : ∃ r, lawPrime 10 n = r := ⟨_, rfl⟩
  rw [hr] at hret
  obtain ⟨hp1, hp2⟩ := lawPrime_of hr
  k_steps
  · cases hp1 (by assumption)
    exact hret _ _ _ rfl (by assumption) (by assumption)
  have hlp := hp2 (by assumption)
  refine Hold.mk (lp_for ?_ (fun _ => rfl))
  k_steps
  refine Hold.mk ?_
  (rename Fr _ _ _ _ => lF'; rename News _ _ _ _ => lN'; rename IsRange _ _ _ _ _ _ _ _ => rgX)
  refine lf_range (σ := Unit) (adr := news.map (·.1)) (fun _ => news) (fun c => [(Str.ofString "n", Value.int n tn)]) (fun i c => lpI (10 - i) (2 + i * 1) n = r) () (fun _ => rfl) rfl rgX (small_one (by omega) (by omega) (by omega) (by omega)) (rangeSize_nat _ _) rfl rfl lF' lN' (by kst_inAny) (by kst_all) (by simpa using hlp) ?_ ?_ (by passes_own)
  · clear lF' lN' rgX
    rintro i c t9 u9 h9 tk9 own9 hi9 hoff hP9 F9 N9
    replace F9 : Fr _ _ h9 _ := F9
    have hi8 : i < 10 := hi9
    obtain ⟨hq1, hq2, hq3⟩ := lpI_step hP9 (by omega)
    have hm1 : IntMulOk (2 + (i : Int) * 1) (2 + (i : Int) * 1) := Sm.left ⟨by omega, by omega⟩ _
    have hd0 : (2 + (i : Int) * 1) ≠ 0 := by omega
    k_steps
    · refine lf_ret ?_
      dsimp only
      k_steps
      cases hq1 (by assumption)
      exact hret _ _ _ rfl (by assumption) (cb_drop (news' := news ++ own9) (by assumption) (fun _ h => List.mem_append_left _ h))
    · refine lf_ret ?_
      dsimp only
      k_steps
      cases hq2 (by assumption) (by assumption)
      exact hret _ _ _ rfl (by assumption) (cb_drop (news' := news ++ own9) (by assumption) (fun _ h => List.mem_append_left _ h))
    · refine lf_end () F9 N9 (fun _ h => List.mem_append_left _ h) (fun _ h => List.mem_append_right _ h) (by kst_all) ?_
      have e := hq3 (by assumption) (by assumption)
      rw [show 10 - (i + 1) = 10 - i - 1 by omega, show (2 : Int) + ((i + 1 : Nat) : Int) * 1 = 2 + (i : Int) * 1 + 1 by omega]
      exact e
  · clear lF' lN' rgX
    rintro c u9 h9 tk9 hP9 F9 N9
    replace F9 : Fr _ _ h9 _ := F9
    have hP8 : lpI 0 (2 + 10 * 1) n = r := hP9
    rw [lpI] at hP8
    k_steps
    cases hP8
    exact hret _ _ _ rfl (by assumption) (by assumption)
end Mine
end
section
open PySem PySem.W PySem.Calls PyProof.Rows PySem.Spec
namespace Mine
set_option maxRecDepth 100000
set_option maxHeartbeats 8000000
set_option pp.maxSteps 300
local macro_rules | `(tactic| walk_at "exec While Compare cons nil") => `(tactic| refine Hold.out ?_)
local macro_rules | `(tactic| walk_at "exec While Constant cons nil") => `(tactic| refine Hold.out ?_)
local macro_rules | `(tactic| walk_at "exec While UnaryOp cons nil") => `(tactic| refine Hold.out ?_)
local macro_rules | `(tactic| walk_at "exec While Name cons nil") => `(tactic| refine Hold.out ?_)
local macro_rules | `(tactic| walk_at "exec For Name Name cons nil") => `(tactic| refine Hold.out ?_)
local macro_rules | `(tactic| walk_at "exec For Name Call cons cons") => `(tactic| refine Hold.out ?_)
local macro_rules | `(tactic| walk_at "exec For Name Call cons nil") => `(tactic| refine Hold.out ?_)
local macro_rules | `(tactic| walk_at "exec For Name Subscript cons nil") => `(tactic| refine Hold.out ?_)
local macro_rules | `(tactic| walk_at "pyIter ref") => `(tactic| refine Hold.out ?_)
local macro_rules | `(tactic| walk_at "pyIter str") => `(tactic| refine Hold.out ?_)
local macro_rules | `(tactic| walk_at "call ref") => `(tactic| refine Hold.out ?_)
local macro_rules | `(tactic| walk_at "CompSrcT") => `(tactic| refine Hold.out ?_)
local macro_rules | `(tactic| walk_at "CompSrc") => `(tactic| refine Hold.out ?_)
local macro_rules | `(tactic| walk_at "CompEnd") => `(tactic| refine Hold.out ?_)
local macro_rules | `(tactic| walk_at "eval Call") => `(tactic| k_dflt (refine Call_ ?_))
theorem mers_cl (w : World) (news : List (Addr × Obj)) (e : Int) (te : Tok) (h0 : 0 ≤ e) (h64 : e < 64) (r : Bool) (hr : mersF e = some r) :
    Cl w 106 news [.int e te] 2 (fun v => v = .bool r) := by
  unfold Cl
  k_fill
  w_top off
  intro p loose mean mg mb dp un gd cn cs ad ccd cl outer A₀ base h₀ L m s Q E B F X N T hk hd hu hret
  refine wpAny_call ?_
  k_dflt cell_enter
  obtain ⟨hp1, hp2, hp3⟩ := mersF_of hr
  k_steps
  · cases hp1 (by assumption)
    exact hret _ _ _ rfl (by assumption) (by assumption)
  (refine Hold.mk ?_; with_unfolding_all refine' Cl.use (prime_cl w _ e te) ?k1c6 ?k2c6 ?k3c6 ?k4c6 ?k5c6 ?kKc6 ?kdc6 ?kuc6 ?kRc6; (case k1c6 => k_asm); (case k2c6 => k_asm); (case k3c6 => k_asm); (case k4c6 => k_asm); (case k5c6 => k_asm); (case kKc6 => exact rfl); (try (case kMc6 => k_mem)); (case kdc6 => ktr_room); (case kuc6 => ktr_units); intro v9 h9 tk9 hv9 F9 N9; (try dsimp only); (try k_fold))
  subst hv9
  k_steps
  rotate_left
  · cases hp2 (by assumption) (by assumption)
    exact hret _ _ _ rfl (by assumption) (by assumption)
  obtain ⟨s1, hs1, hs2⟩ := hp3 (by assumption) (by assumption)
  have he2 : 2 ≤ e := lawPrime_two (by assumption)
  have hpw := pow_ge4 (k := e.toNat) (by omega)
  have hn0 : (2 : Int) ^ e.toNat - 1 ≠ 0 := by omega
  refine Hold.mk (lp_for ?_ (fun _ => rfl))
  k_steps
  refine Hold.mk ?_
  (rename Fr _ _ _ _ => lF'; rename News _ _ _ _ => lN'; rename IsRange _ _ _ _ _ _ _ _ => rgX)
  have hrg : Builtin.Range.rangeSize 0 (e - 2) 1 = ((e - 2).toNat : Int) := by rw [rangeSize_nat, Int.sub_zero]
  refine lf_range (σ := Int × Tok) (adr := news.map (·.1)) (fun _ => news) (fun c => [(Str.ofString "n", Value.int (2 ^ e.toNat - 1) _), (Str.ofString "s", Value.int c.1 c.2)]) (fun i c => llF ((e - 2).toNat - i) (2 ^ e.toNat - 1) c.1 = some s1) (4, _) (fun _ => rfl) rfl rgX (small_one (by omega) (by omega) (by omega) (by omega)) hrg rfl rfl lF' lN' (by kst_inAny) (by kst_all) hs1 ?_ ?_ (by passes_own)
  · clear lF' lN' rgX
    rintro i ⟨c, tc⟩ t9 u9 h9 tk9 own9 hi9 hoff hP9 F9 N9
    replace F9 : Fr _ _ h9 _ := F9
    obtain ⟨hq1, hq2⟩ := llF_step hP9 (by omega)
    dsimp only at hq1 hq2 F9
    have hm1 := hq1.left c
    k_steps
    · (rename News _ _ _ _ => nE')
      exact lf_end (_, _) (by assumption) nE' (fun _ h => List.mem_append_left _ h) (fun _ h => List.mem_append_right _ h) (by kst_all) hq2
  · clear lF' lN' rgX
    rintro ⟨c, tc⟩ u9 h9 tk9 hP9 F9 N9
    replace F9 : Fr _ _ h9 _ := F9
    rw [Nat.sub_self, llF] at hP9
    cases Option.some.inj hP9
    dsimp only at F9
    subst hs2
    k_steps
    exact hret _ _ _ rfl (by assumption) (by assumption)
end Mine
end
section
open PySem PySem.W PySem.Calls PyProof.Rows PySem.Spec
namespace Mine
set_option maxRecDepth 100000
set_option maxHeartbeats 8000000
set_option pp.maxSteps 300
local macro_rules | `(tactic| walk_at "exec While Compare cons nil") => `(tactic| refine Hold.out ?_)
local macro_rules | `(tactic| walk_at "exec While Constant cons nil") => `(tactic| refine Hold.out ?_)
local macro_rules | `(tactic| walk_at "exec While UnaryOp cons nil") => `(tactic| refine Hold.out ?_)
local macro_rules | `(tactic| walk_at "exec While Name cons nil") => `(tactic| refine Hold.out ?_)
local macro_rules | `(tactic| walk_at "exec For Name Name cons nil") => `(tactic| refine Hold.out ?_)
local macro_rules | `(tactic| walk_at "exec For Name Call cons cons") => `(tactic| refine Hold.out ?_)
local macro_rules | `(tactic| walk_at "exec For Name Call cons nil") => `(tactic| refine Hold.out ?_)
local macro_rules | `(tactic| walk_at "exec For Name Subscript cons nil") => `(tactic| refine Hold.out ?_)
local macro_rules | `(tactic| walk_at "pyIter ref") => `(tactic| refine Hold.out ?_)
local macro_rules | `(tactic| walk_at "pyIter str") => `(tactic| refine Hold.out ?_)
local macro_rules | `(tactic| walk_at "call ref") => `(tactic| refine Hold.out ?_)
local macro_rules | `(tactic| walk_at "CompSrcT") => `(tactic| refine Hold.out ?_)
local macro_rules | `(tactic| walk_at "CompSrc") => `(tactic| refine Hold.out ?_)
local macro_rules | `(tactic| walk_at "CompEnd") => `(tactic| refine Hold.out ?_)
local macro_rules | `(tactic| walk_at "eval Call") => `(tactic| k_dflt (refine Call_ ?_))
theorem ferm_cl (w : World) (news : List (Addr × Obj)) (e : Int) (te : Tok) (h0 : 0 ≤ e) (h64 : e < 64) (r : Bool) (hr : fermF e = r) :
    Cl w 113 news [.int e te] 1 (fun v => v = .bool r) := by
  unfold Cl
  k_fill
  w_top off
  intro p loose mean mg mb dp un gd cn cs ad ccd cl outer A₀ base h₀ L m s Q E B F X N T hk hd hu hret
  refine wpAny_call ?_
  k_dflt cell_enter
  obtain ⟨hp1, hp2, hp3⟩ := fermF_of hr
  k_steps
  · cases hp1 (by assumption)
    exact hret _ _ _ rfl (by assumption) (by assumption)
  refine Hold.mk (lp_for ?_ (fun _ => rfl))
  k_steps
  refine Hold.mk ?_
  (rename Fr _ _ _ _ => lF'; rename News _ _ _ _ => lN'; rename IsRange _ _ _ _ _ _ _ _ => rgX)
  refine lf_range (σ := Int × Tok) (adr := news.map (·.1)) (fun _ => news) (fun c => [(Str.ofString "e", Value.int e te), (Str.ofString "rest", Value.int c.1 c.2)]) (fun i c => halF (6 - i) c.1 = halF 6 e) (e, _) (fun _ => rfl) rfl rgX (small_one (by omega) (by omega) (by omega) (by omega)) (rangeSize_nat _ _) rfl rfl lF' lN' (by kst_inAny) (by kst_all) rfl ?_ ?_ (by passes_own)
  · clear lF' lN' rgX
    rintro i ⟨c, tc⟩ t9 u9 h9 tk9 own9 hi9 hoff hP9 F9 N9
    replace F9 : Fr _ _ h9 _ := F9
    have hi8 : i < 6 := hi9
    obtain ⟨hq1, hq2⟩ := halF_step hP9 (by omega)
    dsimp only at hq1 hq2 F9
    k_steps
    · (rename News _ _ _ _ => nE')
      exact lf_end (_, _) (by assumption) nE' (fun _ h => List.mem_append_left _ h) (fun _ h => List.mem_append_right _ h) (by kst_all) (hq1 (by assumption))
    · exact lf_end (_, _) (by assumption) N9 (fun _ h => List.mem_append_left _ h) (fun _ h => List.mem_append_right _ h) (by kst_all) (hq2 (by assumption))
  · clear lF' lN' rgX
    rintro ⟨c, tc⟩ u9 h9 tk9 hP9 F9 N9
    replace F9 : Fr _ _ h9 _ := F9
    have hP8 : c = halF 6 e := hP9
    dsimp only at F9
    have hpw := pow_pos2 e.toNat
    have hfd : (0 : Int) ≤ (2 ^ e.toNat + 1 - 1 : Int).fdiv 2 := Int.fdiv_nonneg (by omega) (by omega)
    k_with "call builtin:pow" => refine call_pow3 (by omega) (by omega) ?_
    k_steps
    · cases hp2 (by assumption) (by rw [← hP8]; assumption)
      exact hret _ _ _ rfl (by assumption) (by assumption)
    · cases hp3 (by assumption) (by rw [← hP8]; assumption)
      exact hret _ _ _ rfl (by assumption) (by assumption)
end Mine
end
section
open PySem PySem.W PySem.Calls PyProof.Rows PySem.Spec
namespace Mine
set_option maxRecDepth 100000
set_option maxHeartbeats 8000000
set_option pp.maxSteps 300
local macro_rules | `(tactic| walk_at "exec While Compare cons nil") => `(tactic| refine Hold.out ?_)
local macro_rules | `(tactic| walk_at "exec While Constant cons nil") => `(tactic| refine Hold.out ?_)
local macro_rules | `(tactic| walk_at "exec While UnaryOp cons nil") => `(tactic| refine Hold.out ?_)
local macro_rules | `(tactic| walk_at "exec While Name cons nil") => `(tactic| refine Hold.out ?_)
local macro_rules | `(tactic| walk_at "exec For Name Name cons nil") => `(tactic| refine Hold.out ?_)
local macro_rules | `(tactic| walk_at "exec For Name Call cons cons") => `(tactic| refine Hold.out ?_)
local macro_rules | `(tactic| walk_at "exec For Name Call cons nil") => `(tactic| refine Hold.out ?_)
local macro_rules | `(tactic| walk_at "exec For Name Subscript cons nil") => `(tactic| refine Hold.out ?_)
local macro_rules | `(tactic| walk_at "pyIter ref") => `(tactic| refine Hold.out ?_)
local macro_rules | `(tactic| walk_at "pyIter str") => `(tactic| refine Hold.out ?_)
local macro_rules | `(tactic| walk_at "call ref") => `(tactic| refine Hold.out ?_)
local macro_rules | `(tactic| walk_at "CompSrcT") => `(tactic| refine Hold.out ?_)
local macro_rules | `(tactic| walk_at "CompSrc") => `(tactic| refine Hold.out ?_)
local macro_rules | `(tactic| walk_at "CompEnd") => `(tactic| refine Hold.out ?_)
local macro_rules | `(tactic| walk_at "subscriptTail") => `(tactic| (k_here; (with_reducible show wpAny _ _ (subscriptTail _ _ (Value.ref _) (Value.int _ _)) _ _ _); k_dflt ((with_unfolding_all refine' topTupAny_K ?F ?X ?l ?i ?k3 ?k4 ?k5 ?_); (case F => k_asm); (case X => k_asm); (case l => k_is); (case i => l_ints); (case k3 => omega); (case k4 => (simp only [List.length_cons, List.length_nil]; omega)); (case k5 => omega)); intro _))
theorem basis_at (k : Nat) (h : k < 16) : ([3, 5, 7, 11, 13, 17, 19, 23, 29, 31, 37, 41, 43, 47, 53, 59] : List Int).getD k 0 ∈ BASIS := by
  have h2 : ∀ j : Fin 16, ([3, 5, 7, 11, 13, 17, 19, 23, 29, 31, 37, 41, 43, 47, 53, 59] : List Int).getD j.val 0 ∈ BASIS := by decide +kernel
  exact h2 ⟨k, h⟩
theorem basis_cl (w : World) (news : List (Addr × Obj)) (a : Int) (ta : Tok) (h0 : 0 ≤ a) (h1 : a < 65536) :
    ClG w 92 (fun _ => True) news [.int a ta] 2 (fun v news' => ∃ l vs ns nn, v = .ref l ∧ news' = (l, listOf vs.toArray nn) :: news ∧ IntsAre vs ns ∧ ∀ p ∈ ns, p ∈ BASIS) := by
  unfold ClG
  k_fill
  w_top off
  intro p loose mean mg mb dp un gd cn cs ad ccd cl outer A₀ base h₀ L m s Q E B F X N T hk hP hd hu hret
  refine wpAny_call ?_
  k_dflt ((refine' code_defC ?k1 ?k2 ?k3 ?k4 ?k5 ?kA ?kF ?kK ?k6 ?k7 ?k8 ?k9 ?kB ?kD ?_ ?c2 ?c3 ?c4; (case kA => exact rfl); (case kF => exact rfl); (case kK => assumption); (case k1 => k_asm); (case k2 => k_asm); (case k3 => k_asm); (case k4 => k_asm); (case k5 => k_asm); (case k6 => k_is); (case k7 => k_is); (case k8 => ktr_room); (case k9 => exact BindsTo.of_eq rfl); (case kB => exact rfl); (case kD => decide +kernel); (case c2 => exact rfl); (case c3 => exact rfl); (case c4 => exact rfl); k_whole; intro g' L' h' tk' cells' FG' F' N' Y' B' X' T' l1; (try k_lt l1); k_cells Y'; (try simp only [List.cons_append, List.nil_append] at N'); (try dsimp only); (try k_lift B'); (try k_fold)))
  k_steps
  (rename Fr _ _ _ _ => lF'; rename News _ _ _ _ => lN'; rename IsRange _ _ _ _ _ _ _ _ => rgX)
  refine Hold.mk (LCt.CompSrcT.range rfl lF' lN' rgX (small_one (by omega) (by omega) (by omega) (by omega)) (rangeSize_nat _ _) (Nat.le_of_ble_eq_true rfl) ?_)
  intro g9
  refine ct_rest (fun i ys => ∃ ns, IntsAre ys ns ∧ ∀ p ∈ ns, p ∈ BASIS) ⟨[], .nil, by simp⟩ ?_ ?_
  · clear lF' lN' rgX
    rintro i _ I9 oI9 C9 oC9 D9 m9 ys9 h9 tk9 E9 hi9 ⟨t9, rfl⟩ ⟨ns, hys, hns⟩ hC9 hx9 F9 N9 off9 ne9
    have hi8 : i < 16 := hi9
    dsimp only
    (try k_fold)
    k_steps
    · refine Hold.mk (ct_end F9 N9 off9 (fun p hp => hp) trivial ⟨rfl, ns ++ [_], IntsAre.append hys (.cons _ _ .nil), ?_⟩)
      intro q hq
      rcases List.mem_append.mp hq with hq | hq
      · exact hns q hq
      · rw [List.mem_singleton.mp hq]
        exact basis_at _ (by omega)
    · exact Hold.mk (ct_end F9 N9 off9 (fun p hp => hp) trivial ⟨rfl, ns, hys, hns⟩)
  · clear lF' lN' rgX
    rintro ys ⟨ns, hys, hns⟩
    k_steps
    exact hret _ _ _ _ ⟨_, _, _, _, rfl, rfl, hys, hns⟩ (by assumption) (cb_drop (by assumption) (by kst_inAny))
end Mine
end
section
open PySem PySem.W PySem.Calls PyProof.Rows PySem.Spec
namespace Mine
set_option maxRecDepth 100000
set_option maxHeartbeats 8000000
set_option pp.maxSteps 300
local macro_rules | `(tactic| walk_at "exec While Compare cons nil") => `(tactic| refine Hold.out ?_)
local macro_rules | `(tactic| walk_at "exec While Constant cons nil") => `(tactic| refine Hold.out ?_)
local macro_rules | `(tactic| walk_at "exec While UnaryOp cons nil") => `(tactic| refine Hold.out ?_)
local macro_rules | `(tactic| walk_at "exec While Name cons nil") => `(tactic| refine Hold.out ?_)
local macro_rules | `(tactic| walk_at "exec For Name Name cons nil") => `(tactic| refine Hold.out ?_)
local macro_rules | `(tactic| walk_at "exec For Name Call cons cons") => `(tactic| refine Hold.out ?_)
local macro_rules | `(tactic| walk_at "exec For Name Call cons nil") => `(tactic| refine Hold.out ?_)
local macro_rules | `(tactic| walk_at "exec For Name Subscript cons nil") => `(tactic| refine Hold.out ?_)
local macro_rules | `(tactic| walk_at "pyIter ref") => `(tactic| refine Hold.out ?_)
local macro_rules | `(tactic| walk_at "pyIter str") => `(tactic| refine Hold.out ?_)
local macro_rules | `(tactic| walk_at "call ref") => `(tactic| refine Hold.out ?_)
local macro_rules | `(tactic| walk_at "CompSrcT") => `(tactic| refine Hold.out ?_)
local macro_rules | `(tactic| walk_at "CompSrc") => `(tactic| refine Hold.out ?_)
local macro_rules | `(tactic| walk_at "CompEnd") => `(tactic| refine Hold.out ?_)
local macro_rules | `(tactic| walk_at "eval Call") => `(tactic| k_dflt (refine Call_ ?_))
set_option pp.maxSteps 300
theorem bne_self (b : Bool) : ¬ (b != b) = true := by cases b <;> decide
theorem top : OpenLaw.Holds Challenge.rw_yt0005_01 := by
  refine hd ?_
  k_go0
  all_goals (try k_fold)
  k_steps
  (rename PySem.Heap.IsList _ _ _ => hLst; rename IntsAre _ _ => hInt; rename ¬ _ < _ => hlen)
  have hlen2 := hlen
  refine Hold.mk (lp_for ?_ (fun _ => rfl))
  k_steps
  refine Hold.mk ?_
  (rename Fr _ _ _ _ => lF'; rename News _ _ _ _ => lN'; rename IsRange _ _ _ _ _ _ _ _ => rgX)
  refine lf_range (σ := Unit) (adr := []) (fun _ => []) (fun _ => [(Str.ofString "script", Value.ref _)]) (fun _ _ => True) () (fun _ => rfl) rfl rgX (small_one (by omega) (by omega) (by omega) (by omega)) (rangeSize_nat _ _) rfl rfl lF' lN' (by kst_inAny) (by kst_all) trivial ?_ ?_ (by passes_own)
  · clear lF' lN' rgX
    rintro i c t9 u9 h9 tk9 own9 hi9 hoff hP9 F9 N9
    have hi8 : i < 2 := hi9
    replace F9 : Fr _ _ h9 _ := F9
    have hl64 : ∀ j : Int, j < 2 → 2 * (0 + j * 1) + 1 < 64 := fun j hj => by omega
    k_steps
    (refine Hold.mk ?_; with_unfolding_all refine' ClG.use (draw_cl _ _ _ _ _ _ _ 64 _ hInt (by omega) (by omega) (by omega) (by decide)) ?k1c8 ?k2c8 ?k3c8 ?k4c8 ?k5c8 ?kKc8 ?kPc8 ?kdc8 ?kuc8 ?kRc8; (case k1c8 => k_asm); (case k2c8 => k_asm); (case k3c8 => k_asm); (case k4c8 => k_asm); (case k5c8 => k_asm); (case kKc8 => exact rfl); (case kPc8 => assumption); (case kdc8 => ktr_room); (case kuc8 => ktr_units); intro v9 nw9 h9 tk9 hv9 F9 N9; (try dsimp only); (try k_fold))
    obtain ⟨rfl, e, te, rfl, he0, he1⟩ := hv9
    k_steps
    (refine Hold.mk ?_; with_unfolding_all refine' ClG.use (draw_cl _ _ _ _ _ _ _ 65536 _ hInt (by omega) (by omega) (by omega) (by decide)) ?k1c9 ?k2c9 ?k3c9 ?k4c9 ?k5c9 ?kKc9 ?kPc9 ?kdc9 ?kuc9 ?kRc9; (case k1c9 => k_asm); (case k2c9 => k_asm); (case k3c9 => k_asm); (case k4c9 => k_asm); (case k5c9 => k_asm); (case kKc9 => exact rfl); (case kPc9 => assumption); (case kdc9 => ktr_room); (case kuc9 => ktr_units); intro v9 nw9 h9 tk9 hv9 F9 N9; (try dsimp only); (try k_fold))
    obtain ⟨rfl, mk, tmk, rfl, hm0, hm1⟩ := hv9
    k_steps
    (refine Hold.mk ?_; with_unfolding_all refine' ClG.use (basis_cl _ _ mk tmk hm0 hm1) ?k1c10 ?k2c10 ?k3c10 ?k4c10 ?k5c10 ?kKc10 ?kPc10 ?kdc10 ?kuc10 ?kRc10; (case k1c10 => k_asm); (case k2c10 => k_asm); (case k3c10 => k_asm); (case k4c10 => k_asm); (case k5c10 => k_asm); (case kKc10 => exact rfl); (case kPc10 => trivial); (case kdc10 => ktr_room); (case kuc10 => ktr_units); intro v9 nw9 h9 tk9 hv9 F9 N9; (try dsimp only); (try k_fold))
    obtain ⟨lb, vb, nb, kb, rfl, rfl, hIb, hBb⟩ := hv9
    obtain ⟨rm, hrm, hM, hF⟩ := law01 e he0 he1
    k_steps
    (refine Hold.mk ?_; with_unfolding_all refine' Cl.use (isp_cl _ _ _ _ lb vb nb kb 200 rm List.mem_cons_self hIb (fun p hp => basis_small p (hBb p hp)) (hM nb hBb)) ?k1c11 ?k2c11 ?k3c11 ?k4c11 ?k5c11 ?kKc11 ?kdc11 ?kuc11 ?kRc11; (case k1c11 => k_asm); (case k2c11 => k_asm); (case k3c11 => k_asm); (case k4c11 => k_asm); (case k5c11 => k_asm); (case kKc11 => exact rfl); (try (case kMc11 => k_mem)); (case kdc11 => ktr_room); (case kuc11 => ktr_units); intro v9 h9 tk9 hv9 F9 N9; (try dsimp only); (try k_fold))
    subst hv9
    k_steps
    (refine Hold.mk ?_; with_unfolding_all refine' Cl.use (mers_cl _ _ e te he0 he1 rm hrm) ?k1c12 ?k2c12 ?k3c12 ?k4c12 ?k5c12 ?kKc12 ?kdc12 ?kuc12 ?kRc12; (case k1c12 => k_asm); (case k2c12 => k_asm); (case k3c12 => k_asm); (case k4c12 => k_asm); (case k5c12 => k_asm); (case kKc12 => exact rfl); (try (case kMc12 => k_mem)); (case kdc12 => ktr_room); (case kuc12 => ktr_units); intro v9 h9 tk9 hv9 F9 N9; (try dsimp only); (try k_fold))
    subst hv9
    k_steps
    · exact absurd (by assumption) (bne_self rm)
    (refine Hold.mk ?_; with_unfolding_all refine' Cl.use (isp_cl _ _ _ _ lb vb nb kb 200 (fermF e) List.mem_cons_self hIb (fun p hp => basis_small p (hBb p hp)) (hF nb hBb)) ?k1c13 ?k2c13 ?k3c13 ?k4c13 ?k5c13 ?kKc13 ?kdc13 ?kuc13 ?kRc13; (case k1c13 => k_asm); (case k2c13 => k_asm); (case k3c13 => k_asm); (case k4c13 => k_asm); (case k5c13 => k_asm); (case kKc13 => exact rfl); (try (case kMc13 => k_mem)); (case kdc13 => ktr_room); (case kuc13 => ktr_units); intro v9 h9 tk9 hv9 F9 N9; (try dsimp only); (try k_fold))
    subst hv9
    k_steps
    (refine Hold.mk ?_; with_unfolding_all refine' Cl.use (ferm_cl _ _ e te he0 he1 (fermF e) rfl) ?k1c14 ?k2c14 ?k3c14 ?k4c14 ?k5c14 ?kKc14 ?kdc14 ?kuc14 ?kRc14; (case k1c14 => k_asm); (case k2c14 => k_asm); (case k3c14 => k_asm); (case k4c14 => k_asm); (case k5c14 => k_asm); (case kKc14 => exact rfl); (try (case kMc14 => k_mem)); (case kdc14 => ktr_room); (case kuc14 => ktr_units); intro v9 h9 tk9 hv9 F9 N9; (try dsimp only); (try k_fold))
    subst hv9
    k_steps
    · exact absurd (by assumption) (bne_self (fermF e))
    · (rename News _ _ _ _ => nE')
      refine lf_end () (by assumption) nE' (by simp) (fun _ h => List.mem_cons_of_mem _ h) (by kst_all) trivial
  · clear lF' lN' rgX
    rintro c u9 h9 tk9 hP9 F9 N9
    replace F9 : Fr _ _ h9 _ := F9
    k_steps
end Mine
end
theorem PySem.Challenge.cw_yt0005_01_holds : PySem.Challenge.rw_yt0005_01.Holds := by
  exact Mine.top
