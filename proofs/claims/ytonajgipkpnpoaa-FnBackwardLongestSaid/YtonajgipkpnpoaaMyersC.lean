/- The plain law of the road from the end, second half: the way back, chains of common pieces, and that the road is the shortest. -/
import Derived.Test.YtonajgipkpnpoaaMyersB
namespace Go.Myers
variable {E : Nat → Nat → Bool} {N M : Nat} {dl : Int}

/-- a common piece -/
structure Dg where
  x : Int
  y : Int
  len : Int

instance : Inhabited Dg := ⟨⟨0, 0, 0⟩⟩

/-- common pieces, one behind the other, from (px, py) on -/
def Chain (E : Nat → Nat → Bool) (N M : Nat) : List Dg → Int → Int → Prop
  | [], _, _ => True
  | d :: t, px, py => px ≤ d.x ∧ py ≤ d.y ∧ 0 < d.len ∧ d.x + d.len ≤ N ∧ d.y + d.len ≤ M ∧ (∀ i : Nat, (i : Int) < d.len → E (d.x.toNat + i) (d.y.toNat + i) = true) ∧ Chain E N M t (d.x + d.len) (d.y + d.len)

/-- where they end -/
def endX : List Dg → Int → Int
  | [], p => p
  | d :: t, _ => endX t (d.x + d.len)
def endY : List Dg → Int → Int
  | [], p => p
  | d :: t, _ => endY t (d.y + d.len)

def total : List Dg → Int
  | [] => 0
  | d :: t => d.len + total t

/-- one more element in common, at (x, y) -/
def appendD : List Dg → Int → Int → List Dg
  | [], x, y => [⟨x, y, 1⟩]
  | [d], x, y => if d.x + d.len = x ∧ d.y + d.len = y then [⟨d.x, d.y, d.len + 1⟩] else [d, ⟨x, y, 1⟩]
  | d :: e :: t, x, y => d :: appendD (e :: t) x y

theorem total_append : ∀ (l : List Dg) (x y : Int), total (appendD l x y) = total l + 1
  | [], x, y => by simp [appendD, total]
  | [d], x, y => by unfold appendD; split <;> simp [total] <;> omega
  | d :: e :: t, x, y => by
    have := total_append (e :: t) x y
    simp only [appendD, total] at *; omega

theorem end_append : ∀ (l : List Dg) (x y px py : Int), endX (appendD l x y) px = x + 1 ∧ endY (appendD l x y) py = y + 1
  | [], x, y, px, py => by simp [appendD, endX, endY]
  | [d], x, y, px, py => by
    unfold appendD; split
    · simp only [endX, endY]; omega
    · simp [endX, endY]
  | d :: e :: t, x, y, px, py => by
    simp only [appendD, endX, endY]
    exact end_append (e :: t) x y _ _

theorem chain_append : ∀ (l : List Dg) (x y px py : Int), 0 ≤ px → 0 ≤ py → Chain E N M l px py → endX l px ≤ x → endY l py ≤ y → x < N → y < M → E x.toNat y.toNat = true → Chain E N M (appendD l x y) px py
  | [], x, y, px, py, h0, h1, _, hx, hy, hN, hM, hE => by
    simp only [endX, endY] at hx hy
    refine ⟨hx, hy, by show (0 : Int) < 1; omega, by show x + 1 ≤ N; omega, by show y + 1 ≤ M; omega, fun i hi => ?_, trivial⟩
    obtain rfl : i = 0 := by simp at hi; omega
    simpa using hE
  | [d], x, y, px, py, h0, h1, ⟨c1, c2, c3, c4, c5, c6, _⟩, hx, hy, hN, hM, hE => by
    simp only [endX, endY] at hx hy
    unfold appendD
    split
    · rename_i c
      refine ⟨c1, c2, by show 0 < d.len + 1; omega, by show d.x + (d.len + 1) ≤ N; omega, by show d.y + (d.len + 1) ≤ M; omega, fun i hi => ?_, trivial⟩
      by_cases ci : (i : Int) < d.len
      · exact c6 i ci
      · have hi' : (i : Int) < d.len + 1 := hi
        have e1 : d.x.toNat + i = x.toNat := by omega
        have e2 : d.y.toNat + i = y.toNat := by omega
        show E (d.x.toNat + i) (d.y.toNat + i) = true
        rw [e1, e2]; exact hE
    · refine ⟨c1, c2, c3, c4, c5, c6, hx, hy, by show (0 : Int) < 1; omega, by show x + 1 ≤ N; omega, by show y + 1 ≤ M; omega, fun i hi => ?_, trivial⟩
      obtain rfl : i = 0 := by simp at hi; omega
      simpa using hE
  | d :: e :: t, x, y, px, py, h0, h1, ⟨c1, c2, c3, c4, c5, c6, c7⟩, hx, hy, hN, hM, hE =>
    ⟨c1, c2, c3, c4, c5, c6, chain_append (e :: t) x y _ _ (by omega) (by omega) c7 hx hy hN hM hE⟩

/-! ### the way back -/
/-- On the way back: at (x, x - (k + dl)), which lies on the piece that D walked on diagonal k. -/
structure Back (E : Nat → Nat → Bool) (N M : Nat) (dl : Int) (D : Nat) (k x : Int) : Prop where
  v : valid D k
  x0 : 0 ≤ x
  y0 : 0 ≤ x - (k + dl)
  xN : x ≤ N
  yM : x - (k + dl) ≤ M
  lo : lab E N dl D k ≤ x
  hi : ∃ r, x ≤ r ∧ ((D = 0 ∧ r = N) ∨ (∃ d, D = d + 1 ∧ ((valid d (k - 1) ∧ r = lab E N dl d (k - 1)) ∨ (valid d (k + 1) ∧ r = lab E N dl d (k + 1) - 1)))) ∧ ∀ i, x ≤ i → i < r → E i.toNat (i - (k + dl)).toNat = true

theorem Back.start (hd : dl = (N : Int) - M) {D : Nat} {k : Int} (hv : valid D k) (h0 : 0 ≤ lab E N dl D k) (h1 : 0 ≤ lab E N dl D k - (k + dl)) : Back E N M dl D k (lab E N dl D k) := by
  have hb := lab_bound (E := E) hd D k hv
  refine ⟨hv, h0, h1, hb.1, hb.2, Int.le_refl _, ?_⟩
  cases D with
  | zero =>
    obtain ⟨a, b, _⟩ := hv
    obtain rfl : k = 0 := by omega
    simp only [lab] at *
    exact ⟨N, look_le _ _ _, Or.inl ⟨trivial, rfl⟩, fun i h2 h3 => (look_eq (E := E) h2 h3).2.2⟩
  | succ d =>
    rcases lab_from (E := E) (N := N) (dl := dl) d k hv with ⟨v, e⟩ | ⟨v, e⟩
    · refine ⟨_, ?_, Or.inr ⟨d, rfl, Or.inl ⟨v, rfl⟩⟩, fun i h2 h3 => ?_⟩
      · rw [e]; exact look_le _ _ _
      · rw [e] at h2; exact (look_eq (E := E) h2 h3).2.2
    · refine ⟨_, ?_, Or.inr ⟨d, rfl, Or.inr ⟨v, rfl⟩⟩, fun i h2 h3 => ?_⟩
      · rw [e]; exact look_le _ _ _
      · rw [e] at h2; exact (look_eq (E := E) h2 h3).2.2

/-- up: y grows by one -/
theorem Back.up (hd : dl = (N : Int) - M) {d : Nat} {k x : Int} (h : Back E N M dl (d + 1) k x) (hv : valid d (k - 1)) (he : x = lab E N dl d (k - 1)) : Back E N M dl d (k - 1) x := by
  have hb := lab_bound (E := E) hd d (k - 1) hv
  have y0 := h.y0
  have := Back.start (E := E) (M := M) hd hv (by rw [← he]; exact h.x0) (by rw [← he]; omega)
  rwa [← he] at this

/-- right: x grows by one -/
theorem Back.right (hd : dl = (N : Int) - M) {d : Nat} {k x : Int} (h : Back E N M dl (d + 1) k x) (hv : valid d (k + 1)) (he : x + 1 = lab E N dl d (k + 1)) : Back E N M dl d (k + 1) (x + 1) := by
  have x0 := h.x0
  have y0 := h.y0
  have := Back.start (E := E) (M := M) hd hv (by rw [← he]; omega) (by rw [← he]; omega)
  rwa [← he] at this

/-- along the diagonal -/
theorem Back.diag (hd : dl = (N : Int) - M) {D : Nat} {k x : Int} (h : Back E N M dl D k x) (hne : ¬ (x = N ∧ x - (k + dl) = M)) (h1 : ∀ d, D = d + 1 → valid d (k - 1) → x ≠ lab E N dl d (k - 1)) (h2 : ∀ d, D = d + 1 → valid d (k + 1) → x + 1 ≠ lab E N dl d (k + 1)) :
    Back E N M dl D k (x + 1) ∧ E x.toNat (x - (k + dl)).toNat = true ∧ x < N ∧ x - (k + dl) < M := by
  obtain ⟨r, hr, hc, he⟩ := h.hi
  have hlt : x < r := by
    rcases hc with ⟨rfl, rfl⟩ | ⟨d, rfl, ⟨v, rfl⟩ | ⟨v, rfl⟩⟩
    · have v := h.v
      obtain ⟨a, b, _⟩ := v
      have := h.xN
      have := h.yM
      by_cases c : x = N
      · exfalso; apply hne; omega
      · omega
    · have := h1 d rfl v; omega
    · have := h2 d rfl v; omega
  have hrb : r ≤ N ∧ r - (k + dl) ≤ M := by
    rcases hc with ⟨rfl, rfl⟩ | ⟨d, rfl, ⟨v, rfl⟩ | ⟨v, rfl⟩⟩
    · have v := h.v
      obtain ⟨a, b, _⟩ := v
      omega
    · have := lab_bound (E := E) hd d _ v; omega
    · have := lab_bound (E := E) hd d _ v; omega
  have x0 := h.x0
  have y0 := h.y0
  have lo := h.lo
  exact ⟨⟨h.v, by omega, by omega, by omega, by omega, by omega, r, by omega, hc, fun i a b => he i (by omega) b⟩, he x (Int.le_refl _) hlt, by omega, by omega⟩

/-! ### longest common subsequences -/
/-- how long the longest common subsequence is of what stands from (N - p) and (M - q) on -/
def rest (E : Nat → Nat → Bool) (N M : Nat) : Nat → Nat → Nat
  | 0, _ => 0
  | _ + 1, 0 => 0
  | p + 1, q + 1 => if E (N - (p + 1)) (M - (q + 1)) = true then rest E N M p q + 1 else max (rest E N M p (q + 1)) (rest E N M (p + 1) q)

theorem rest_zero (p : Nat) : rest E N M p 0 = 0 := by cases p <;> simp [rest]

theorem rest_le : ∀ p q, rest E N M p q ≤ p ∧ rest E N M p q ≤ q
  | 0, q => by simp [rest]
  | p + 1, 0 => by simp [rest]
  | p + 1, q + 1 => by
    unfold rest
    have h1 := rest_le p q
    have h2 := rest_le p (q + 1)
    have h3 := rest_le (p + 1) q
    split <;> omega

/-- THE FARTHEST: no point from which the end is reached with at most D steps lies farther than the label of D on its diagonal. -/
theorem farthest (hd : dl = (N : Int) - M) : ∀ (n p q D : Nat) (k : Int), p + q ≤ n → p ≤ N → q ≤ M → k = ((N : Int) - p) - ((M : Int) - q) - dl → ((D : Int) + k) % 2 = 0 → (p : Int) + q - 2 * rest E N M p q ≤ D →
    valid D k ∧ lab E N dl D k ≤ (N : Int) - p
  | n, p, q, D, k, hn, hp, hq, hk, hpar, hD => by
    have hr := rest_le (E := E) (N := N) (M := M) p q
    have hv : valid D k := ⟨by omega, by omega, hpar⟩
    refine ⟨hv, ?_⟩
    match p, q with
    | 0, q => have := (lab_bound (E := E) hd D k hv).1; simpa using this
    | p + 1, 0 =>
      have := (lab_bound (E := E) hd D k hv).2
      omega
    | p + 1, q + 1 =>
      cases n with
      | zero => omega
      | succ n =>
      unfold rest at hD
      split at hD
      · -- in common
        rename_i c
        have ih := (farthest hd n p q D k (by omega) (by omega) (by omega) (by omega) hpar (by omega)).2
        by_cases e : lab E N dl D k = (N : Int) - p
        · exfalso
          have m := lab_max (E := E) (N := N) (dl := dl) D k hv (by omega) (by omega)
          rw [e] at m
          rw [show ((N : Int) - p - 1).toNat = N - (p + 1) by omega, show ((N : Int) - p - 1 - (k + dl)).toNat = M - (q + 1) by omega, c] at m
          cases m
        · omega
      · have hm : (p : Int) + (q + 1) - 2 * rest E N M p (q + 1) ≤ (D : Int) - 1 ∨ (p : Int) + 1 + q - 2 * rest E N M (p + 1) q ≤ (D : Int) - 1 := by
          rcases Nat.le_total (rest E N M p (q + 1)) (rest E N M (p + 1) q) with h | h
          · right; rw [Nat.max_eq_right h] at hD; omega
          · left; rw [Nat.max_eq_left h] at hD; omega
        have h2 := rest_le (E := E) (N := N) (M := M) p (q + 1)
        have h3 := rest_le (E := E) (N := N) (M := M) (p + 1) q
        cases D with
        | zero => omega
        | succ D =>
          rcases hm with hm | hm
          · -- x grows by one
            have ih := farthest hd n p (q + 1) D (k + 1) (by omega) (by omega) (by omega) (by omega) (by omega) (by omega)
            have := lab_le_h (E := E) (N := N) (dl := dl) D (k + 1) ih.1
            rw [show k + 1 - 1 = k by omega] at this
            have h4 := ih.2
            omega
          · have ih := farthest hd n (p + 1) q D (k - 1) (by omega) (by omega) (by omega) (by omega) (by omega) (by omega)
            have := lab_le_v (E := E) (N := N) (dl := dl) D (k - 1) ih.1
            rw [show k - 1 + 1 = k by omega] at this
            have h4 := ih.2
            omega

/-- The whole: the road is done by the number of steps that a longest common subsequence leaves. -/
theorem done_by (hd : dl = (N : Int) - M) (D : Nat) (hD : (N : Int) + M - 2 * rest E N M N M ≤ D) : ¬ open_ E N dl D := by
  intro ho
  obtain ⟨D', hD'⟩ : ∃ D' : Nat, (D' : Int) = (N : Int) + M - 2 * rest E N M N M := ⟨((N : Int) + M - 2 * rest E N M N M).toNat, by have := rest_le (E := E) (N := N) (M := M) N M; omega⟩
  have h := farthest (E := E) hd (N + M) N M D' (-dl) (Nat.le_refl _) (Nat.le_refl _) (Nat.le_refl _) (by omega) (by omega) (by omega)
  have s := sum_pos (E := E) hd D' (fun d hd2 => ho d (by omega)) (-dl) h.1
  have h2 := h.2
  unfold sm at s
  omega
end Go.Myers
