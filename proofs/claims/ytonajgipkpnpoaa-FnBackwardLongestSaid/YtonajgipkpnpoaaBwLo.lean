/- The plain law of Longest: the table, row by row. -/
import Derived.Test.YtonajgipkpnpoaaQFnBackwardLongestx
import Derived.Test.YtonajgipkpnpoaaMyersL
namespace Go.Proofs.Ytonajgipkpnpoaa.QFnBackwardLongest
open Go.RowKit Go.Proofs.YtonajgipkpnpoaaW.PrintWords Go.Proofs.YtonajgipkpnpoaaW.PrintLast Go.Proofs.YtonajgipkpnpoaaW.PrintMore Go.Myers

theorem w64' {i : Int} (h0 : -9223372036854775808 ≤ i) (h1 : i ≤ 9223372036854775807) : wrap64 i = i := by unfold wrap64; omega

def eN (x y : List Int) : Nat → Nat → Bool := fun i j => rd x (i : Int) == rd y (j : Int)

def rowM (x y : List Int) (i j : Nat) : List Int := (List.range (y.length + 1)).map fun t => if t ≤ j then (lc (eN x y) (i + 1) t : Int) else (lc (eN x y) i t : Int)

section
variable {x y : List Int}

theorem rowM_length (i j : Nat) : (rowM x y i j).length = y.length + 1 := by simp [rowM]

theorem rowM_get {i j t : Nat} (h : t ≤ y.length) : rd (rowM x y i j) (t : Int) = if t ≤ j then (lc (eN x y) (i + 1) t : Int) else (lc (eN x y) i t : Int) := by
  unfold rd rowM
  rw [Int.toNat_natCast, List.getD_eq_getElem?_getD, List.getElem?_map, List.getElem?_range (by omega)]
  rfl

theorem rowM_set {i j : Nat} (h : j < y.length) : (rowM x y i j).set (j + 1) (lc (eN x y) (i + 1) (j + 1) : Int) = rowM x y i (j + 1) := by
  apply List.ext_getElem?
  intro t
  rw [List.getElem?_set]
  unfold rowM
  by_cases ht : t < y.length + 1
  · rw [List.getElem?_map, List.getElem?_map, List.getElem?_range ht]
    by_cases e : j + 1 = t
    · subst e
      rw [if_pos rfl, if_pos (by simp; omega)]
      simp
    · rw [if_neg e]
      simp only [Option.map_some]
      by_cases c : t ≤ j
      · rw [if_pos c, if_pos (by omega)]
      · rw [if_neg c, if_neg (by omega)]
  · have h1 : ((List.range (y.length + 1)).map fun t => if t ≤ j then (lc (eN x y) (i + 1) t : Int) else (lc (eN x y) i t : Int))[t]? = none := by simp; omega
    have h2 : ((List.range (y.length + 1)).map fun t => if t ≤ j + 1 then (lc (eN x y) (i + 1) t : Int) else (lc (eN x y) i t : Int))[t]? = none := by simp; omega
    rw [h1, h2, if_neg (by omega)]

theorem rowM_next (i : Nat) : rowM x y i y.length = rowM x y (i + 1) 0 := by
  unfold rowM
  apply List.map_congr_left
  intro t ht
  rw [List.mem_range] at ht
  rw [if_pos (by omega)]
  by_cases c : t ≤ 0
  · obtain rfl : t = 0 := by omega
    rw [if_pos c, lc_zero, lc_zero]
  · rw [if_neg c]

theorem lc_small (i j : Nat) : lc (eN x y) i j ≤ i := by
  have h := lc_rest (E := eN x y) (N := i) (M := j) (i + j) i j (Nat.le_refl _) (Nat.le_refl _) (Nat.le_refl _)
  have h2 := rest_le (E := eN x y) (N := i) (M := j) i j
  omega

theorem lo_inner (hx : x.length ≤ 1000000) (hy : y.length ≤ 1000000) (i : Nat) (hi : i < x.length) (K : Nat) (r : Int) (hr : ∀ k, K ≤ k → spec_Longest.l0 k y (rowM x y (i + 1) 0) x (x.length : Int) ((i + 1 : Nat) : Int) = some r) :
    ∀ (n j : Nat), y.length - j = n → j ≤ y.length → ∀ k, K + n < k → spec_Longest.l1 k y (rowM x y i j) (rd x (i : Int)) (lc (eN x y) i j : Int) x (x.length : Int) (i : Int) y (y.length : Int) (j : Int) = some r := by
  intro n
  induction n with
  | zero =>
    intro j hn hj k hk
    obtain ⟨k, rfl⟩ : ∃ m, k = m + 1 := ⟨k - 1, by omega⟩
    obtain rfl : j = y.length := by omega
    have e1 : wrap64 ((i : Int) + 1) = ((i + 1 : Nat) : Int) := by rw [w64' (by omega) (by omega)]; omega
    rw [spec_Longest.l1, if_neg (by omega), e1, rowM_next]
    exact hr k (by omega)
  | succ n ih =>
    intro j hn hj k hk
    obtain ⟨k, rfl⟩ : ∃ m, k = m + 1 := ⟨k - 1, by omega⟩
    have hjl : j < y.length := by omega
    have c1 : (j : Int) < (y.length : Int) := by omega
    have c2 : (0 : Int) ≤ (j : Int) := by omega
    have c3 : (0 : Int) ≤ ((j + 1 : Nat) : Int) := by omega
    have c4 : ((j + 1 : Nat) : Int) < ((rowM x y i j).length : Int) := by rw [rowM_length]; omega
    have c5 : (j : Int) < ((rowM x y i j).length : Int) := by rw [rowM_length]; omega
    have g1 : rd (rowM x y i j) ((j + 1 : Nat) : Int) = (lc (eN x y) i (j + 1) : Int) := by rw [rowM_get (by omega), if_neg (by omega)]
    have g2 : rd (rowM x y i j) (j : Int) = (lc (eN x y) (i + 1) j : Int) := by rw [rowM_get (by omega), if_pos (by omega)]
    have hs := lc_small (x := x) (y := y) i j
    have hst := rowM_set (x := x) (y := y) (i := i) hjl
    have hih := ih (j + 1) (by omega) (by omega) k (by omega)
    have e1 : wrap64 ((j : Int) + 1) = ((j + 1 : Nat) : Int) := by rw [w64' (by omega) (by omega)]; omega
    have e2 : wrap64 ((lc (eN x y) i j : Int) + 1) = ((lc (eN x y) i j + 1 : Nat) : Int) := by rw [w64' (by omega) (by omega)]; omega
    rw [spec_Longest.l1, if_pos c1, if_pos c2, if_pos c1, e1, if_pos c3, if_pos c4, g1, g2, e2, Int.toNat_natCast]
    clear e1 e2
    by_cases he : rd x (i : Int) = rd y (j : Int)
    · have hl : lc (eN x y) (i + 1) (j + 1) = lc (eN x y) i j + 1 := by
        rw [lc, if_pos (by unfold eN; rw [beq_iff_eq]; exact he)]
      rw [if_pos he, ← hl, hst]
      exact hih
    · have hl : lc (eN x y) (i + 1) (j + 1) = max (lc (eN x y) i (j + 1)) (lc (eN x y) (i + 1) j) := by
        rw [lc, if_neg (by unfold eN; rw [beq_iff_eq]; exact he)]
      have hm : mx (lc (eN x y) i (j + 1) : Int) (lc (eN x y) (i + 1) j : Int) = (lc (eN x y) (i + 1) (j + 1) : Int) := by
        rw [hl]; unfold mx; split <;> omega
      rw [if_neg he, if_pos c5, hm, hst]
      exact hih

theorem lo_outer (hx : x.length ≤ 1000000) (hy : y.length ≤ 1000000) : ∀ (n i : Nat), x.length - i = n → i ≤ x.length → ∃ K, ∀ k, K ≤ k → spec_Longest.l0 k y (rowM x y i 0) x (x.length : Int) (i : Int) = some (lc (eN x y) x.length y.length : Int) := by
  intro n
  induction n with
  | zero =>
    intro i hn hi
    obtain rfl : i = x.length := by omega
    refine ⟨1, fun k hk => ?_⟩
    obtain ⟨k, rfl⟩ : ∃ m, k = m + 1 := ⟨k - 1, by omega⟩
    have c1 : (0 : Int) ≤ (y.length : Int) := by omega
    have c2 : (y.length : Int) < ((rowM x y x.length 0).length : Int) := by rw [rowM_length]; omega
    rw [spec_Longest.l0, if_neg (by omega), if_pos c1, if_pos c2, rowM_get (Nat.le_refl _)]
    by_cases c : y.length ≤ 0
    · have : y.length = 0 := by omega
      rw [if_pos c, this, lc_zero, lc_zero]
    · rw [if_neg c]
  | succ n ih =>
    intro i hn hi
    obtain ⟨K, hK⟩ := ih (i + 1) (by omega) (by omega)
    refine ⟨K + y.length + 3, fun k hk => ?_⟩
    obtain ⟨k, rfl⟩ : ∃ m, k = m + 1 := ⟨k - 1, by omega⟩
    have hin := lo_inner hx hy i (by omega) K _ hK y.length 0 (by omega) (by omega) k (by omega)
    have c1 : (i : Int) < (x.length : Int) := by omega
    have c2 : (0 : Int) ≤ (i : Int) := by omega
    rw [lc_zero] at hin
    rw [spec_Longest.l0, if_pos c1, if_pos c2, if_pos c1]
    exact hin

theorem rowM_start : rowM x y 0 0 = List.replicate (y.length + 1) 0 := by
  unfold rowM
  apply List.ext_getElem
  · simp
  · intro t h1 h2
    simp only [List.getElem_map, List.getElem_range, List.getElem_replicate]
    by_cases c : t ≤ 0
    · obtain rfl : t = 0 := by omega
      rw [if_pos c, lc_zero]; rfl
    · rw [if_neg c, lc_zero']; rfl

theorem longest_ev (hx : x.length ≤ 1000000) (hy : y.length ≤ 1000000) : ∃ k, spec_Longest.f k x y = some (lc (eN x y) x.length y.length : Int) := by
  obtain ⟨K, hK⟩ := lo_outer hx hy x.length 0 (by omega) (by omega)
  refine ⟨K, ?_⟩
  have h := hK K (Nat.le_refl _)
  rw [rowM_start] at h
  have e1 : wrap64 ((y.length : Int) + 1) = ((y.length + 1 : Nat) : Int) := by rw [w64' (by omega) (by omega)]; omega
  unfold spec_Longest.f
  rw [e1, if_pos (by omega), if_pos (by omega), Int.toNat_natCast]
  exact h
end
end Go.Proofs.Ytonajgipkpnpoaa.QFnBackwardLongest
