/- Chains of common pieces: what they bound. -/
import Derived.Test.YtonajgipkpnpoaaMyersC
set_option linter.unusedVariables false
namespace Go.Myers
variable {E : Nat → Nat → Bool} {N M : Nat}

theorem chain_in : ∀ (l : List Dg) (px py : Int), 0 ≤ px → 0 ≤ py → Chain E N M l px py → ∀ d ∈ l, 0 ≤ d.x ∧ d.x ≤ N ∧ 0 ≤ d.y ∧ d.y ≤ M ∧ 0 < d.len ∧ d.len ≤ N ∧ d.len ≤ M
  | [], _, _, _, _, _ => by simp
  | d :: t, px, py, h0, h1, ⟨c1, c2, c3, c4, c5, _, c6⟩ => by
    intro e he
    rcases List.mem_cons.1 he with rfl | he
    · omega
    · exact chain_in t _ _ (by omega) (by omega) c6 e he

theorem chain_end : ∀ (l : List Dg) (px py : Int), Chain E N M l px py → px + total l ≤ endX l px ∧ py + total l ≤ endY l py ∧ (l.length : Int) ≤ total l
  | [], _, _, _ => by simp [total, endX, endY]
  | d :: t, px, py, ⟨c1, c2, c3, c4, c5, _, c6⟩ => by
    have := chain_end t _ _ c6
    simp only [total, endX, endY, List.length_cons]
    omega

theorem chain_le : ∀ (l : List Dg) (px py : Int), px ≤ N → py ≤ M → Chain E N M l px py → endX l px ≤ N ∧ endY l py ≤ M
  | [], _, _, h0, h1, _ => ⟨h0, h1⟩
  | d :: t, px, py, _, _, ⟨c1, c2, c3, c4, c5, _, c6⟩ => chain_le t _ _ c4 c5 c6

theorem chain_mono : ∀ (l : List Dg) (px py qx qy : Int), qx ≤ px → qy ≤ py → Chain E N M l px py → Chain E N M l qx qy
  | [], _, _, _, _, _, _, _ => trivial
  | d :: t, px, py, qx, qy, h0, h1, ⟨c1, c2, c3, c4, c5, ce, c6⟩ => ⟨Int.le_trans h0 c1, Int.le_trans h1 c2, c3, c4, c5, ce, c6⟩

theorem look_lo {dl k r b : Int} (hb : b ≤ 0) (h : b ≤ r) : b ≤ look E dl k r := by
  by_cases c : 0 < r ∧ 0 < r - (k + dl)
  · have := look_in (E := E) c.1 c.2; omega
  · rw [look_out c]; exact h

theorem lab_lo {dl : Int} : ∀ (D : Nat) (k : Int), valid D k → -(D : Int) ≤ lab E N dl D k
  | 0, k, _ => look_lo (by omega) (by omega)
  | D + 1, k, hv => by
    rcases lab_from (E := E) (N := N) (dl := dl) D k hv with ⟨v, e⟩ | ⟨v, e⟩
    · have := lab_lo (dl := dl) D _ v
      rw [e]; exact look_lo (by omega) (by omega)
    · have := lab_lo (dl := dl) D _ v
      rw [e]; exact look_lo (by omega) (by omega)

/-- nothing is done at D if nothing was before and no label of D is at the start -/
theorem open_next {dl : Int} {D : Nat} (h : ∀ d, d + 1 = D → open_ E N dl d) (hz : ∀ k, valid D k → ¬ (lab E N dl D k = 0 ∧ lab E N dl D k - (k + dl) = 0)) : open_ E N dl D := by
  intro d hd hv h0
  rcases Nat.lt_or_ge d D with c | c
  · exact h (D - 1) (by omega) d (by omega) hv h0
  · obtain rfl : d = D := by omega
    exact hz _ hv ⟨h0, by rw [h0]; omega⟩
end Go.Myers
