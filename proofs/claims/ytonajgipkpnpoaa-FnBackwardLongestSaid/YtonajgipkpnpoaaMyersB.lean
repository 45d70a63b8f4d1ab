/- The plain law of the road from the end: labels, what they bound, that one of them is in range, and the way back. No program in sight. -/
namespace Go.Myers

/-- how many elements in common two beginnings have at their ends -/
def suf (E : Nat → Nat → Bool) : Nat → Nat → Nat
  | x + 1, y + 1 => if E x y = true then suf E x y + 1 else 0
  | 0, _ => 0
  | _ + 1, 0 => 0

variable {E : Nat → Nat → Bool}

theorem suf_le : ∀ x y, suf E x y ≤ x ∧ suf E x y ≤ y
  | 0, y => by simp [suf]
  | x + 1, 0 => by simp [suf]
  | x + 1, y + 1 => by
    unfold suf
    have := suf_le x y
    split <;> omega

theorem suf_eq : ∀ x y i, i < suf E x y → E (x - 1 - i) (y - 1 - i) = true
  | 0, y, i, h => by simp [suf] at h
  | x + 1, 0, i, h => by simp [suf] at h
  | x + 1, y + 1, i, h => by
    unfold suf at h
    split at h
    · rename_i c
      cases i with
      | zero => simpa using c
      | succ i =>
        have := suf_eq x y i (by omega)
        rwa [show x + 1 - 1 - (i + 1) = x - 1 - i by omega, show y + 1 - 1 - (i + 1) = y - 1 - i by omega]
    · omega

theorem suf_max : ∀ x y, suf E x y < x → suf E x y < y → E (x - 1 - suf E x y) (y - 1 - suf E x y) = false
  | 0, y, h, _ => by omega
  | x + 1, 0, _, h => by omega
  | x + 1, y + 1, h1, h2 => by
    unfold suf at *
    split
    · rename_i c
      rw [if_pos c] at h1 h2
      have := suf_max x y (by omega) (by omega)
      rwa [show x + 1 - 1 - (suf E x y + 1) = x - 1 - suf E x y by omega, show y + 1 - 1 - (suf E x y + 1) = y - 1 - suf E x y by omega]
    · rename_i c
      simpa using c

/-- down the diagonal k + dl from r as far as possible -/
def look (E : Nat → Nat → Bool) (dl k r : Int) : Int :=
  if 0 < r ∧ 0 < r - (k + dl) then r - (suf E r.toNat (r - (k + dl)).toNat : Nat) else r

theorem look_le (dl k r : Int) : look E dl k r ≤ r := by unfold look; split <;> omega

theorem look_in {dl k r : Int} (h1 : 0 < r) (h2 : 0 < r - (k + dl)) : 0 ≤ look E dl k r ∧ 0 ≤ look E dl k r - (k + dl) := by
  unfold look
  have := suf_le (E := E) r.toNat (r - (k + dl)).toNat
  rw [if_pos ⟨h1, h2⟩]; omega

theorem look_out {dl k r : Int} (h : ¬ (0 < r ∧ 0 < r - (k + dl))) : look E dl k r = r := by unfold look; rw [if_neg h]

theorem look_eq {dl k r i : Int} (h1 : look E dl k r ≤ i) (h2 : i < r) : 0 ≤ i ∧ 0 ≤ i - (k + dl) ∧ E i.toNat (i - (k + dl)).toNat = true := by
  by_cases c : 0 < r ∧ 0 < r - (k + dl)
  · have b := look_in (E := E) c.1 c.2
    unfold look at h1 b
    rw [if_pos c] at h1 b
    have := suf_eq (E := E) r.toNat (r - (k + dl)).toNat (r - 1 - i).toNat (by omega)
    refine ⟨by omega, by omega, ?_⟩
    rwa [show r.toNat - 1 - (r - 1 - i).toNat = i.toNat by omega, show (r - (k + dl)).toNat - 1 - (r - 1 - i).toNat = (i - (k + dl)).toNat by omega] at this
  · rw [look_out c] at h1; omega

theorem look_max {dl k r : Int} (h1 : 0 < look E dl k r) (h2 : 0 < look E dl k r - (k + dl)) : E (look E dl k r - 1).toNat (look E dl k r - 1 - (k + dl)).toNat = false := by
  by_cases c : 0 < r ∧ 0 < r - (k + dl)
  · unfold look at *
    rw [if_pos c] at *
    have := suf_max (E := E) r.toNat (r - (k + dl)).toNat (by omega) (by omega)
    rwa [show r.toNat - 1 - suf E r.toNat (r - (k + dl)).toNat = (r - (suf E r.toNat (r - (k + dl)).toNat : Nat) - 1).toNat by omega,
      show (r - (k + dl)).toNat - 1 - suf E r.toNat (r - (k + dl)).toNat = (r - (suf E r.toNat (r - (k + dl)).toNat : Nat) - 1 - (k + dl)).toNat by omega] at this
  · rw [look_out c] at h1 h2; omega

theorem look_look (dl k r : Int) : look E dl k (look E dl k r) = look E dl k r := by
  have hle := look_le (E := E) dl k (look E dl k r)
  by_cases c : 0 < look E dl k r ∧ 0 < look E dl k r - (k + dl)
  · have m := look_max (E := E) c.1 c.2
    by_cases e : look E dl k (look E dl k r) = look E dl k r
    · exact e
    · have := look_eq (E := E) (dl := dl) (k := k) (r := look E dl k r) (i := look E dl k r - 1) (by omega) (by omega)
      rw [this.2.2] at m; cases m
  · exact look_out c

/-- the label of D on diagonal k -/
def lab (E : Nat → Nat → Bool) (N : Nat) (dl : Int) : Nat → Int → Int
  | 0, _ => look E dl 0 N
  | D + 1, k =>
    if k = -((D : Int) + 1) then look E dl k (lab E N dl D (-D) - 1) else
    if k = (D : Int) + 1 then look E dl k (lab E N dl D D) else
    if look E dl k (lab E N dl D (k - 1)) < look E dl k (lab E N dl D (k + 1) - 1) then look E dl k (lab E N dl D (k - 1)) else look E dl k (lab E N dl D (k + 1) - 1)

theorem lab_succ (E : Nat → Nat → Bool) (N : Nat) (dl : Int) (D : Nat) (k : Int) : lab E N dl (D + 1) k =
    if k = -((D : Int) + 1) then look E dl k (lab E N dl D (-D) - 1) else
    if k = (D : Int) + 1 then look E dl k (lab E N dl D D) else
    if look E dl k (lab E N dl D (k - 1)) < look E dl k (lab E N dl D (k + 1) - 1) then look E dl k (lab E N dl D (k - 1)) else look E dl k (lab E N dl D (k + 1) - 1) := rfl

def valid (D : Nat) (k : Int) : Prop := -(D : Int) ≤ k ∧ k ≤ D ∧ ((D : Int) + k) % 2 = 0

variable {N M : Nat} {dl : Int}

/-- Where a label began: above it, or to its right. -/
theorem lab_from (D : Nat) (k : Int) (hv : valid (D + 1) k) :
    (valid D (k - 1) ∧ lab E N dl (D + 1) k = look E dl k (lab E N dl D (k - 1))) ∨ (valid D (k + 1) ∧ lab E N dl (D + 1) k = look E dl k (lab E N dl D (k + 1) - 1)) := by
  obtain ⟨h1, h2, h3⟩ := hv
  rw [lab_succ]
  by_cases c1 : k = -((D : Int) + 1)
  · right
    rw [if_pos c1, show (-(D : Int)) = k + 1 by omega]
    exact ⟨⟨by omega, by omega, by omega⟩, rfl⟩
  · rw [if_neg c1]
    by_cases c2 : k = (D : Int) + 1
    · left
      rw [if_pos c2]
      refine ⟨⟨by omega, by omega, by omega⟩, ?_⟩
      rw [show k - 1 = (D : Int) by omega]
    · rw [if_neg c2]
      split
      · left; exact ⟨⟨by omega, by omega, by omega⟩, rfl⟩
      · right; exact ⟨⟨by omega, by omega, by omega⟩, rfl⟩

theorem lab_le_v (D : Nat) (k : Int) (hv : valid D k) : lab E N dl (D + 1) (k + 1) ≤ lab E N dl D k := by
  obtain ⟨h1, h2, h3⟩ := hv
  rw [lab_succ]
  rw [if_neg (by omega)]
  by_cases c2 : k + 1 = (D : Int) + 1
  · rw [if_pos c2, show (D : Int) = k by omega]; exact look_le _ _ _
  · rw [if_neg c2, show k + 1 - 1 = k by omega]
    have := look_le (E := E) dl (k + 1) (lab E N dl D k)
    split <;> omega

theorem lab_le_h (D : Nat) (k : Int) (hv : valid D k) : lab E N dl (D + 1) (k - 1) ≤ lab E N dl D k - 1 := by
  obtain ⟨h1, h2, h3⟩ := hv
  rw [lab_succ]
  by_cases c1 : k - 1 = -((D : Int) + 1)
  · rw [if_pos c1, show (-(D : Int)) = k by omega]; exact look_le _ _ _
  · rw [if_neg c1, if_neg (by omega), show k - 1 + 1 = k by omega]
    have := look_le (E := E) dl (k - 1) (lab E N dl D k - 1)
    split <;> omega

theorem lab_bound (hd : dl = (N : Int) - M) : ∀ (D : Nat) (k : Int), valid D k → lab E N dl D k ≤ N ∧ lab E N dl D k - (k + dl) ≤ M
  | 0, k, ⟨h1, h2, _⟩ => by
    obtain rfl : k = 0 := by omega
    have := look_le (E := E) dl 0 N
    simp only [lab]; omega
  | D + 1, k, hv => by
    rcases lab_from (E := E) (N := N) (dl := dl) D k hv with ⟨v, e⟩ | ⟨v, e⟩
    · have := lab_bound hd D _ v
      have l := look_le (E := E) dl k (lab E N dl D (k - 1))
      rw [e]; omega
    · have := lab_bound hd D _ v
      have l := look_le (E := E) dl k (lab E N dl D (k + 1) - 1)
      rw [e]; omega

theorem lab_max (D : Nat) (k : Int) (hv : valid D k) (h1 : 0 < lab E N dl D k) (h2 : 0 < lab E N dl D k - (k + dl)) : E (lab E N dl D k - 1).toNat (lab E N dl D k - 1 - (k + dl)).toNat = false := by
  cases D with
  | zero =>
    obtain ⟨a, b, _⟩ := hv
    obtain rfl : k = 0 := by omega
    simp only [lab] at *
    exact look_max h1 h2
  | succ D =>
    rcases lab_from (E := E) (N := N) (dl := dl) D k hv with ⟨v, e⟩ | ⟨v, e⟩ <;> (rw [e] at h1 h2 ⊢; exact look_max h1 h2)

/-! ### out of range: further on lies another label, no farther from the end -/
theorem left_out (hN : 0 ≤ (N : Int)) : ∀ (D : Nat) (k : Int), valid D k → lab E N dl D k < 0 → k + 2 ≤ D ∧ lab E N dl D (k + 2) ≤ lab E N dl D k + 1
  | 0, k, ⟨h1, h2, _⟩, hx => by
    exfalso
    simp only [lab] at hx
    by_cases c : 0 < (N : Int) ∧ 0 < (N : Int) - (0 + dl)
    · have := look_in (E := E) (dl := dl) (k := 0) c.1 c.2; omega
    · rw [look_out c] at hx; omega
  | D + 1, k, hv, hx => by
    have hv' := hv
    obtain ⟨a1, a2, a3⟩ := hv'
    rcases lab_from (E := E) (N := N) (dl := dl) D k hv with ⟨v, e⟩ | ⟨v, e⟩
    · -- from above
      have ns : look E dl k (lab E N dl D (k - 1)) = lab E N dl D (k - 1) := by
        by_cases c : 0 < lab E N dl D (k - 1) ∧ 0 < lab E N dl D (k - 1) - (k + dl)
        · have := look_in (E := E) c.1 c.2; rw [e] at hx; omega
        · exact look_out c
      rw [e, ns] at hx ⊢
      have ih := left_out hN D (k - 1) v hx
      rw [show k - 1 + 2 = k + 1 by omega] at ih
      have := lab_le_v (E := E) (N := N) (dl := dl) D (k + 1) ⟨by omega, by omega, by omega⟩
      rw [show k + 1 + 1 = k + 2 by omega] at this
      constructor <;> omega
    · have ns : look E dl k (lab E N dl D (k + 1) - 1) = lab E N dl D (k + 1) - 1 := by
        by_cases c : 0 < lab E N dl D (k + 1) - 1 ∧ 0 < lab E N dl D (k + 1) - 1 - (k + dl)
        · have := look_in (E := E) c.1 c.2; rw [e] at hx; omega
        · exact look_out c
      rw [e, ns]
      have := lab_le_v (E := E) (N := N) (dl := dl) D (k + 1) v
      rw [show k + 1 + 1 = k + 2 by omega] at this
      obtain ⟨b1, b2, b3⟩ := v
      constructor <;> omega

theorem down_out (hM : dl = (N : Int) - M) : ∀ (D : Nat) (k : Int), valid D k → lab E N dl D k - (k + dl) < 0 → -(D : Int) ≤ k - 2 ∧ lab E N dl D (k - 2) ≤ lab E N dl D k - 1
  | 0, k, ⟨h1, h2, _⟩, hx => by
    exfalso
    obtain rfl : k = 0 := by omega
    simp only [lab] at hx
    by_cases c : 0 < (N : Int) ∧ 0 < (N : Int) - (0 + dl)
    · have := look_in (E := E) (dl := dl) (k := 0) c.1 c.2; omega
    · rw [look_out c] at hx; omega
  | D + 1, k, hv, hx => by
    have hv' := hv
    obtain ⟨a1, a2, a3⟩ := hv'
    rcases lab_from (E := E) (N := N) (dl := dl) D k hv with ⟨v, e⟩ | ⟨v, e⟩
    · have ns : look E dl k (lab E N dl D (k - 1)) = lab E N dl D (k - 1) := by
        by_cases c : 0 < lab E N dl D (k - 1) ∧ 0 < lab E N dl D (k - 1) - (k + dl)
        · have := look_in (E := E) c.1 c.2; rw [e] at hx; omega
        · exact look_out c
      rw [e, ns]
      have := lab_le_h (E := E) (N := N) (dl := dl) D (k - 1) v
      rw [show k - 1 - 1 = k - 2 by omega] at this
      obtain ⟨b1, b2, b3⟩ := v
      constructor <;> omega
    · have ns : look E dl k (lab E N dl D (k + 1) - 1) = lab E N dl D (k + 1) - 1 := by
        by_cases c : 0 < lab E N dl D (k + 1) - 1 ∧ 0 < lab E N dl D (k + 1) - 1 - (k + dl)
        · have := look_in (E := E) c.1 c.2; rw [e] at hx; omega
        · exact look_out c
      rw [e, ns] at hx ⊢
      have ih := down_out hM D (k + 1) v (by omega)
      rw [show k + 1 - 2 = k - 1 by omega] at ih
      have := lab_le_h (E := E) (N := N) (dl := dl) D (k - 1) ⟨by omega, by omega, by omega⟩
      rw [show k - 1 - 1 = k - 2 by omega] at this
      constructor <;> omega

/-- x + y of a label -/
def sm (E : Nat → Nat → Bool) (N : Nat) (dl : Int) (D : Nat) (k : Int) : Int := 2 * lab E N dl D k - (k + dl)

/-- Where a label has x + y ≤ 0, so has that of the diagonal of the start. -/
theorem to_zero (hM : dl = (N : Int) - M) (D : Nat) : ∀ (n : Nat) (k : Int), (k + dl).natAbs ≤ n → (k + dl) % 2 = 0 → valid D k → sm E N dl D k ≤ 0 → valid D (-dl) ∧ sm E N dl D (-dl) ≤ 0
  | 0, k, hn, _, hv, hs => by
    obtain rfl : k = -dl := by omega
    exact ⟨hv, hs⟩
  | n + 1, k, hn, hp, hv, hs => by
    by_cases c0 : k + dl = 0
    · obtain rfl : k = -dl := by omega
      exact ⟨hv, hs⟩
    · have hv' := hv
      obtain ⟨a1, a2, a3⟩ := hv'
      by_cases c : k + dl < 0
      · have := left_out (E := E) (dl := dl) (by omega : 0 ≤ (N : Int)) D k hv (by unfold sm at hs; omega)
        exact to_zero hM D n (k + 2) (by omega) (by omega) ⟨by omega, by omega, by omega⟩ (by unfold sm at hs ⊢; omega)
      · have := down_out (E := E) hM D k hv (by unfold sm at hs; omega)
        exact to_zero hM D n (k - 2) (by omega) (by omega) ⟨by omega, by omega, by omega⟩ (by unfold sm at hs ⊢; omega)

/-- not done at D: the label of the start's diagonal is not at the start -/
def open_ (E : Nat → Nat → Bool) (N : Nat) (dl : Int) (D : Nat) : Prop := ∀ d, d ≤ D → valid d (-dl) → lab E N dl d (-dl) ≠ 0

theorem sum_pos (hM : dl = (N : Int) - M) : ∀ D, open_ E N dl D → ∀ k, valid D k → 1 ≤ sm E N dl D k
  | 0, ho, k, hv => by
    have hv' := hv
    obtain ⟨a1, a2, _⟩ := hv'
    obtain rfl : k = 0 := by omega
    have h0 : 0 ≤ lab E N dl 0 0 ∧ 0 ≤ lab E N dl 0 0 - (0 + dl) := by
      simp only [lab]
      by_cases c : 0 < (N : Int) ∧ 0 < (N : Int) - (0 + dl)
      · exact look_in (E := E) (dl := dl) (k := 0) c.1 c.2
      · rw [look_out c]; omega
    by_cases c : sm E N dl 0 0 ≤ 0
    · exfalso
      unfold sm at c
      have e : dl = 0 := by omega
      have := ho 0 (Nat.le_refl _) (by rw [e]; exact ⟨by omega, by omega, by omega⟩)
      rw [e] at this h0 c
      apply this; show lab E N 0 0 0 = 0; omega
    · omega
  | D + 1, ho, k, hv => by
    have ih := sum_pos hM D (fun d hd => ho d (by omega))
    have nn : ∀ k, valid (D + 1) k → 0 ≤ sm E N dl (D + 1) k := by
      intro k hv
      rcases lab_from (E := E) (N := N) (dl := dl) D k hv with ⟨v, e⟩ | ⟨v, e⟩
      · have i1 := ih _ v
        unfold sm at i1 ⊢
        rw [e]
        by_cases c : 0 < lab E N dl D (k - 1) ∧ 0 < lab E N dl D (k - 1) - (k + dl)
        · have := look_in (E := E) c.1 c.2; omega
        · rw [look_out c]; omega
      · have i1 := ih _ v
        unfold sm at i1 ⊢
        rw [e]
        by_cases c : 0 < lab E N dl D (k + 1) - 1 ∧ 0 < lab E N dl D (k + 1) - 1 - (k + dl)
        · have := look_in (E := E) c.1 c.2; omega
        · rw [look_out c]; omega
    by_cases c : sm E N dl (D + 1) k ≤ 0
    · exfalso
      have h0 := nn k hv
      have hp : (k + dl) % 2 = 0 := by unfold sm at c h0; omega
      obtain ⟨v0, s0⟩ := to_zero (E := E) hM (D + 1) (k + dl).natAbs k (Nat.le_refl _) hp hv c
      have := nn _ v0
      refine ho (D + 1) (Nat.le_refl _) v0 ?_
      unfold sm at this s0
      omega
    · omega

/-- IN RANGE: while not done, some label of D is in range. -/
theorem in_range (hM : dl = (N : Int) - M) (D : Nat) (ho : open_ E N dl D) : ∃ k, valid D k ∧ 0 ≤ lab E N dl D k ∧ 0 ≤ lab E N dl D k - (k + dl) := by
  have hs := sum_pos (E := E) hM D ho
  -- the diagonal nearest to the start's
  by_cases c1 : (D : Int) + dl < 0
  · -- all lie to one side
    refine ⟨D, ⟨by omega, by omega, by omega⟩, ?_⟩
    have v : valid D (D : Int) := ⟨by omega, by omega, by omega⟩
    have s := hs _ v
    unfold sm at s
    by_cases cx : lab E N dl D D < 0
    · have := left_out (E := E) (dl := dl) (by omega : 0 ≤ (N : Int)) D D v cx; omega
    · omega
  · by_cases c2 : 0 < -(D : Int) + dl
    · refine ⟨-D, ⟨by omega, by omega, by omega⟩, ?_⟩
      have v : valid D (-(D : Int)) := ⟨by omega, by omega, by omega⟩
      have s := hs _ v
      unfold sm at s
      by_cases cy : lab E N dl D (-(D : Int)) - (-(D : Int) + dl) < 0
      · have := down_out (E := E) hM D (-(D : Int)) v cy; omega
      · omega
    · by_cases c3 : ((D : Int) - dl) % 2 = 0
      · have v : valid D (-dl) := ⟨by omega, by omega, by omega⟩
        have s := hs _ v
        unfold sm at s
        exact ⟨-dl, v, by omega, by omega⟩
      · by_cases c4 : -(D : Int) ≤ -1 - dl
        · have v : valid D (-1 - dl) := ⟨by omega, by omega, by omega⟩
          have s := hs _ v
          unfold sm at s
          exact ⟨-1 - dl, v, by omega, by omega⟩
        · have v : valid D (1 - dl) := ⟨by omega, by omega, by omega⟩
          have s := hs _ v
          unfold sm at s
          exact ⟨1 - dl, v, by omega, by omega⟩
end Go.Myers
