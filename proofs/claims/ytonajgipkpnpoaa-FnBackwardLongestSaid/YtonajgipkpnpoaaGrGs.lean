/- The state of the road from the end, level by level. -/
import Derived.Test.YtonajgipkpnpoaaGrBd
namespace Go.Proofs.Ytonajgipkpnpoaa.Gr
open Go.RowKit Go.Proofs.YtonajgipkpnpoaaW.PrintWords Go.Myers

structure Lv (E : Nat → Nat → Bool) (N : Nat) (dl : Int) (nb : Nat) (Lb : Nat → Nat → Int) (D : Nat) (K : Int → Prop) : Prop where
  low : ∀ d k, d < D → valid d k → Lb d (ix d k) = lab E N dl d k
  at_ : ∀ k, K k → valid D k ∧ Lb D (ix D k) = lab E N dl D k
  nb_ : (nb = D ∧ ∀ k, ¬ K k) ∨ nb = D + 1

/-- what never changes on the road -/
structure Cx where
  W0 : World
  B : Nat
  ge : Nat
  sq : Value
  lim : Nat
  N : Nat
  M : Nat
  F0 : Nat → Prop
  nf : Nat
  Lf : Nat → Nat → Int
  E : Nat → Nat → Bool

def Cx.dl (c : Cx) : Int := (c.N : Int) - c.M
structure Cx.ok (c : Cx) : Prop where
  hN : c.N ≤ 1000000
  hM : c.M ≤ 1000000
  hlim : c.lim ≤ 100000
  lo : ∀ k, c.F0 k → c.B ≤ k
  hB : c.B ≤ c.W0.heap.size

/-- levels below D are there, and the labels K of level D -/
def GS (c : Cx) (w : World) (D : Nat) (K : Int → Prop) : Prop :=
  ∃ F nb Lb, Step c.W0 w c.F0 F ∧ EG w c.B c.ge c.sq c.lim c.N c.M c.dl F c.nf c.Lf nb Lb ∧ SQ w F c.sq c.E c.N c.M ∧ Lv c.E c.N c.dl nb Lb D K

section
variable {c : Cx} {w : World} {D : Nat} {K K' : Int → Prop}

theorem GS.mono (h : GS c w D K) (hk : ∀ k, K' k → K k) : GS c w D K' := by
  obtain ⟨F, nb, Lb, h1, h2, h3, h4⟩ := h
  exact ⟨F, nb, Lb, h1, h2, h3, ⟨h4.low, fun k hk' => h4.at_ k (hk k hk'), h4.nb_.imp (fun ⟨a, b⟩ => ⟨a, fun k hk' => b k (hk k hk')⟩) id⟩⟩

theorem GS.below {w' : World} (h : GS c w D K) (hb : Below w.heap.size w w') : GS c w' D K := by
  obtain ⟨F, nb, Lb, h1, h2, h3, h4⟩ := h
  exact ⟨F, nb, Lb, h1.trans (Step.of_below hb), h2.below hb, h3.step (Step.of_below hb), h4⟩

theorem GS.next (h : GS c w D K) (hk : ∀ k, valid D k → K k) : GS c w (D + 1) (fun _ => False) := by
  obtain ⟨F, nb, Lb, h1, h2, h3, h4⟩ := h
  refine ⟨F, nb, Lb, h1, h2, h3, ⟨fun d k hd hv => ?_, fun k hk => hk.elim, ?_⟩⟩
  · rcases Nat.lt_or_ge d D with e | e
    · exact h4.low d k e hv
    · obtain rfl : d = D := by omega
      exact (h4.at_ k (hk k hv)).2
  · rcases h4.nb_ with ⟨_, b⟩ | e
    · exact absurd (hk (D : Int) ⟨by omega, by omega, by omega⟩) (b _)
    · exact Or.inl ⟨e, fun _ h => h⟩

theorem gs_get (_ho : c.ok) (h : GS c w D K) (d : Nat) (k : Int) (hd : d < D) (hv : valid d k) (hn : d < 1099511627776) :
    Calls Try.prog 34 #[.pointer (some ⟨c.ge, 0, none⟩), .int .i64 d, .int .i64 k] w fun e w' => e = .returned (.int .i64 (lab c.E c.N c.dl d k)) ∧ w = w' := by
  obtain ⟨F, nb, Lb, h1, h2, h3, h4⟩ := h
  have := get_back h2 d k hv (by rcases h4.nb_ with ⟨e, _⟩ | e <;> omega) hn
  rwa [h4.low d k hd hv] at this

theorem Cx.ok.dl (ho : c.ok) : -1000000 ≤ c.dl ∧ c.dl ≤ 1000000 := by have := ho.hN; have := ho.hM; unfold Cx.dl; omega

theorem gs_look (ho : c.ok) (h : GS c w D K) (k r : Int) (hk : -1099511627776 ≤ k ∧ k ≤ 1099511627776) (hr : -1099511627776 ≤ r ∧ r ≤ c.N) (hy : r - (k + c.dl) ≤ c.M) :
    Calls Try.prog 35 #[.pointer (some ⟨c.ge, 0, none⟩), .int .i64 k, .int .i64 r] w fun e w' => e = .returned (.int .i64 (Go.Myers.look c.E c.dl k r)) ∧ GS c w' D K := by
  have h0 := h
  obtain ⟨F, nb, Lb, h1, h2, h3, h4⟩ := h
  have := ho.dl
  exact (look_back h2 h3 k r hk hr hy ⟨by omega, by omega⟩).mono fun e w' ⟨he, hb⟩ => ⟨he, h0.below hb⟩

theorem gs_set (ho : c.ok) (h : GS c w D K) (k r : Int) (hv : valid D k) (hn : D < 1099511627776) (hr : -1099511627776 ≤ r ∧ r ≤ c.N) (hy : r - (k + c.dl) ≤ c.M) (hl : Go.Myers.look c.E c.dl k r = lab c.E c.N c.dl D k) (hK : ∀ k', K' k' → K k' ∨ k' = k) :
    Calls Try.prog 32 #[.pointer (some ⟨c.ge, 0, none⟩), .int .i64 D, .int .i64 k, .int .i64 r] w fun e w' => e = .returned (.tuple #[]) ∧ GS c w' D K' := by
  obtain ⟨F, nb, Lb, h1, h2, h3, h4⟩ := h
  have := ho.dl
  have hnb : D ≤ nb := by rcases h4.nb_ with ⟨e, _⟩ | e <;> omega
  refine (set_back h2 h3 D k r hv hnb hn hr hy ⟨by omega, by omega⟩).mono fun e w' ⟨he, F', L', s1, s2, s3, s4⟩ => ⟨he, F', _, L', h1.trans s1, s2, h3.step s1, ⟨fun d k' hd hv' => ?_, fun k' hk' => ?_, Or.inr ?_⟩⟩
  · rw [s4 d _ (by omega) (by omega)]; exact h4.low d k' hd hv'
  · by_cases e : k' = k
    · subst e
      exact ⟨hv, s3.trans hl⟩
    · have hk2 := h4.at_ k' ((hK k' hk').resolve_right e)
      have hnb2 : nb = D + 1 := by
        rcases h4.nb_ with ⟨_, b⟩ | e2
        · exact absurd ((hK k' hk').resolve_right e) (b _)
        · exact e2
      refine ⟨hk2.1, (s4 D _ (by omega) (fun hh => e ?_)).trans hk2.2⟩
      have e1 := ix_of hv
      have e2 := ix_of hk2.1
      have := hh.2
      omega
  · split
    · rcases h4.nb_ with ⟨e, _⟩ | e <;> omega
    · rfl

/-- what the road from the end answers -/
structure BwAns (c : Cx) (w' : World) (v : Value) (l : List Dg) : Prop where
  row : DgRow w' c.B v l
  bel : Below c.B c.W0 w'
  ch : Chain c.E c.N c.M l 0 0
  ex : open_ c.E c.N c.dl c.lim ∨ ∃ D0 : Nat, (c.N : Int) + c.M - 2 * total l ≤ D0 ∧ ∀ d, d + 1 = D0 → open_ c.E c.N c.dl d

theorem own_base_mono {w : World} {B B' e size n : Nat} {v : Value} {xs : List Value} (h : w.ownsRow B e size v n xs) (hB : B' ≤ B) : w.ownsRow B' e size v n xs :=
  ⟨h.1, h.2.imp id (fun ⟨g, cap, cur, a, b, r⟩ => ⟨g, cap, cur, a, by omega, r⟩)⟩

theorem BwAns.of (ho : c.ok) {F : Nat → Prop} (h1 : Step c.W0 w c.F0 F) {D : Nat} {x0 y0 : Int} {w' : World} {v : Value} {l : List Dg} (hx : 0 ≤ x0) (hy : 0 ≤ y0) (h : BkAns c.E c.N c.M w w' D x0 y0 v l)
    (ex : open_ c.E c.N c.dl c.lim ∨ (x0 = 0 ∧ y0 = 0 ∧ ∀ d, d + 1 = D → open_ c.E c.N c.dl d)) : BwAns c w' v l := by
  have hb := h1.below ho.lo ho.hB
  refine ⟨own_base_mono h.row (by have := ho.hB; have := h1.size; omega), hb.trans (h.bel.mono (by have := ho.hB; have := h1.size; omega)), chain_mono l x0 y0 0 0 hx hy h.ch, ex.imp id (fun ⟨e1, e2, e3⟩ => ⟨D, by have := h.cnt; omega, e3⟩)⟩

theorem gs_yes (ho : c.ok) (h : GS c w D K) (k : Int) (hk : K k) (hn : D < 1099511627776) (h0 : lab c.E c.N c.dl D k = 0) (h1 : lab c.E c.N c.dl D k - (k + c.dl) = 0) (hop : ∀ d, d + 1 = D → open_ c.E c.N c.dl d) :
    Calls Try.prog 33 #[.pointer (some ⟨c.ge, 0, none⟩), .int .i64 D, .int .i64 k] w fun e w' => ∃ v l, e = .returned (.tuple #[.bool true, v]) ∧ BwAns c w' v l := by
  obtain ⟨F, nb, Lb, s1, h2, h3, h4⟩ := h
  have hkk := h4.at_ k hk
  have hN := ho.hN
  have hM := ho.hM
  exact (bdone_yes h2 rfl (by omega) (by omega) D k h4.low hkk.2 hkk.1 (by rcases h4.nb_ with ⟨_, b⟩ | e; exact absurd hk (b k); omega) hn h0 h1).mono fun e w' ⟨v, l, he, hb⟩ => ⟨v, l, he, BwAns.of ho s1 (by omega) (by omega) hb (Or.inr ⟨rfl, rfl, hop⟩)⟩

theorem gs_no (ho : c.ok) (h : GS c w D K) (k : Int) (hk : K k) (hn : D < 1099511627776) (h0 : ¬ (lab c.E c.N c.dl D k = 0 ∧ lab c.E c.N c.dl D k - (k + c.dl) = 0)) :
    Calls Try.prog 33 #[.pointer (some ⟨c.ge, 0, none⟩), .int .i64 D, .int .i64 k] w fun e w' => e = .returned (.tuple #[.bool false, .slice none 0 0]) ∧ w = w' := by
  obtain ⟨F, nb, Lb, s1, h2, h3, h4⟩ := h
  have hkk := h4.at_ k hk
  have hN := ho.hN
  have hM := ho.hM
  have hlo := lab_lo (E := c.E) (N := c.N) (dl := c.dl) D k hkk.1
  exact bdone_no h2 rfl (by omega) (by omega) D k hkk.2 hkk.1 (by rcases h4.nb_ with ⟨_, b⟩ | e; exact absurd hk (b k); omega) hn h0 (by omega)

theorem gs_lcs (ho : c.ok) (h : GS c w D K) (d : Nat) (k : Int) (hd : d < D) (hv : valid d k) (hn : d < 1099511627776) (h0 : 0 ≤ lab c.E c.N c.dl d k) (h1 : 0 ≤ lab c.E c.N c.dl d k - (k + c.dl)) (hop : open_ c.E c.N c.dl c.lim) :
    Calls Try.prog 36 #[.pointer (some ⟨c.ge, 0, none⟩), .int .i64 d, .int .i64 k] w fun e w' => ∃ v l, e = .returned v ∧ BwAns c w' v l := by
  obtain ⟨F, nb, Lb, s1, h2, h3, h4⟩ := h
  have hN := ho.hN
  have hM := ho.hM
  exact (back_lcs h2 rfl (by omega) (by omega) d k (fun d' k' hd' hv' => h4.low d' k' (by omega) hv') (h4.low d k hd hv) hv (by rcases h4.nb_ with ⟨e, _⟩ | e <;> omega) hn h0 h1).mono fun e w' ⟨v, l, he, hb⟩ => ⟨v, l, he, BwAns.of ho s1 h0 h1 hb (Or.inl hop)⟩
end
end Go.Proofs.Ytonajgipkpnpoaa.Gr
