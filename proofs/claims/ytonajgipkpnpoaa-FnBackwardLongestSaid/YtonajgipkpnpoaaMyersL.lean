/- The longest common sequence: by beginnings, by endings, and chains. -/
import Derived.Test.YtonajgipkpnpoaaMyersD
namespace Go.Myers
set_option linter.unusedVariables false

/-- the table of the longest common sequence -/
def lc (e : Nat → Nat → Bool) : Nat → Nat → Nat
  | 0, _ => 0
  | _ + 1, 0 => 0
  | p + 1, q + 1 => if e p q = true then lc e p q + 1 else max (lc e p (q + 1)) (lc e (p + 1) q)

section
variable {e : Nat → Nat → Bool}

theorem lc_zero (p : Nat) : lc e p 0 = 0 := by cases p <;> simp [lc]
theorem lc_zero' (q : Nat) : lc e 0 q = 0 := by simp [lc]

theorem lc_all : ∀ (n p q : Nat), p + q ≤ n → lc e p q ≤ lc e (p + 1) q ∧ lc e p q ≤ lc e p (q + 1) ∧ lc e (p + 1) q ≤ lc e p q + 1 ∧ lc e p (q + 1) ≤ lc e p q + 1
  | 0, p, q, h => by
    obtain rfl : p = 0 := by omega
    obtain rfl : q = 0 := by omega
    simp [lc]
  | n + 1, p, q, h => by
    refine ⟨?_, ?_, ?_, ?_⟩
    · cases q with
      | zero => simp [lc_zero]
      | succ q =>
        have i := lc_all n p q (by omega)
        rw [lc]
        split <;> omega
    · cases p with
      | zero => simp [lc_zero']
      | succ p =>
        have i := lc_all n p q (by omega)
        rw [lc]
        split <;> omega
    · cases q with
      | zero => simp [lc_zero]
      | succ q =>
        have i := lc_all n p q (by omega)
        rw [lc]
        split <;> omega
    · cases p with
      | zero => simp [lc_zero']
      | succ p =>
        have i := lc_all n p q (by omega)
        rw [lc]
        split <;> omega

theorem lc_mono {p q p' q' : Nat} (h1 : p ≤ p') (h2 : q ≤ q') : lc e p q ≤ lc e p' q' := by
  have a : ∀ d, lc e p q ≤ lc e (p + d) q := fun d => by
    induction d with
    | zero => exact Nat.le_refl _
    | succ d ih => exact Nat.le_trans ih (lc_all (p + d + q) (p + d) q (Nat.le_refl _)).1
  have b : ∀ d, lc e p' q ≤ lc e p' (q + d) := fun d => by
    induction d with
    | zero => exact Nat.le_refl _
    | succ d ih => exact Nat.le_trans ih (lc_all (p' + (q + d)) p' (q + d) (Nat.le_refl _)).2.1
  have := a (p' - p)
  have := b (q' - q)
  rw [show p + (p' - p) = p' by omega] at *
  rw [show q + (q' - q) = q' by omega] at *
  omega
end

variable {E : Nat → Nat → Bool} {N M : Nat}

theorem rest_lc : ∀ p q, rest E N M p q = lc (fun p q => E (N - (p + 1)) (M - (q + 1))) p q
  | 0, q => by simp [rest, lc]
  | p + 1, 0 => by simp [rest, lc]
  | p + 1, q + 1 => by
    rw [rest, lc, rest_lc p q, rest_lc p (q + 1), rest_lc (p + 1) q]

theorem rest_mono {p q p' q' : Nat} (h1 : p ≤ p') (h2 : q ≤ q') : rest E N M p q ≤ rest E N M p' q' := by
  rw [rest_lc, rest_lc]; exact lc_mono h1 h2

/-- a beginning's and an ending's common sequences make a common one -/
theorem lc_rest : ∀ (n i j : Nat), i + j ≤ n → i ≤ N → j ≤ M → rest E N M (N - i) (M - j) + lc E i j ≤ rest E N M N M
  | n, 0, j, _, _, _ => by rw [lc_zero']; exact rest_mono (by omega) (by omega)
  | n, i + 1, 0, _, _, _ => by rw [lc_zero]; exact rest_mono (by omega) (by omega)
  | 0, i + 1, j + 1, h, _, _ => by omega
  | n + 1, i + 1, j + 1, h, hi, hj => by
    rw [lc]
    split
    · rename_i c
      have ih := lc_rest n i j (by omega) (by omega) (by omega)
      rw [show N - i = (N - (i + 1)) + 1 by omega, show M - j = (M - (j + 1)) + 1 by omega, rest, if_pos (by rw [show N - (N - (i + 1) + 1) = i by omega, show M - (M - (j + 1) + 1) = j by omega]; exact c)] at ih
      omega
    · have i1 := lc_rest n i (j + 1) (by omega) (by omega) (by omega)
      have i2 := lc_rest n (i + 1) j (by omega) (by omega) (by omega)
      have m1 : rest E N M (N - (i + 1)) (M - (j + 1)) ≤ rest E N M (N - i) (M - (j + 1)) := rest_mono (by omega) (by omega)
      have m2 : rest E N M (N - (i + 1)) (M - (j + 1)) ≤ rest E N M (N - (i + 1)) (M - j) := rest_mono (by omega) (by omega)
      omega

theorem lc_run : ∀ (n x y : Nat), (∀ i, i < n → E (x + i) (y + i) = true) → lc E x y + n ≤ lc E (x + n) (y + n)
  | 0, x, y, _ => Nat.le_refl _
  | n + 1, x, y, h => by
    have ih := lc_run n x y (fun i hi => h i (by omega))
    rw [← Nat.add_assoc x n 1, ← Nat.add_assoc y n 1, lc, if_pos (h n (by omega))]
    omega

theorem chain_lc : ∀ (l : List Dg) (px py : Int), 0 ≤ px → 0 ≤ py → px ≤ N → py ≤ M → Chain E N M l px py → (lc E px.toNat py.toNat : Int) + total l ≤ lc E N M
  | [], px, py, h0, h1, h2, h3, _ => by
    have := lc_mono (e := E) (show px.toNat ≤ N by omega) (show py.toNat ≤ M by omega)
    simp only [total]; omega
  | d :: t, px, py, h0, h1, h2, h3, ⟨c1, c2, c3, c4, c5, ce, c6⟩ => by
    have ih := chain_lc t (d.x + d.len) (d.y + d.len) (by omega) (by omega) c4 c5 c6
    have m := lc_mono (e := E) (show px.toNat ≤ d.x.toNat by omega) (show py.toNat ≤ d.y.toNat by omega)
    have r := lc_run (E := E) d.len.toNat d.x.toNat d.y.toNat (fun i hi => ce i (by omega))
    rw [show d.x.toNat + d.len.toNat = (d.x + d.len).toNat by omega, show d.y.toNat + d.len.toNat = (d.y + d.len).toNat by omega] at r
    simp only [total]; omega

/-- a chain that leaves out no more than the levels tell is a longest one -/
theorem chain_longest {l : List Dg} (hc : Chain E N M l 0 0) {D0 : Nat} (h1 : (N : Int) + M - 2 * total l ≤ D0) (h2 : ∀ d, d + 1 = D0 → open_ E N ((N : Int) - M) d) : total l = lc E N M := by
  have hle := chain_lc l 0 0 (by omega) (by omega) (by omega) (by omega) hc
  have h3 := lc_rest (E := E) (N + M) N M (Nat.le_refl _) (Nat.le_refl _) (Nat.le_refl _)
  have hz : lc E (0 : Int).toNat (0 : Int).toNat = 0 := by simp [lc]
  rw [hz] at hle
  have hrl := rest_le (E := E) (N := N) (M := M) N M
  rcases Nat.eq_zero_or_pos D0 with h0 | h0
  · subst h0; omega
  · have ho := h2 (D0 - 1) (by omega)
    have hn : ¬ ((N : Int) + M - 2 * rest E N M N M ≤ ((D0 - 1 : Nat) : Int)) := fun h => done_by rfl (D0 - 1) h ho
    omega

theorem open_short {lim : Nat} (h : open_ E N ((N : Int) - M) lim) : (lim : Int) < (N : Int) + M := by
  by_cases c : (lim : Int) < (N : Int) + M
  · exact c
  · exact absurd h (done_by rfl lim (by omega))
end Go.Myers
