/- The plain law of the road from the end: labels, what they bound, that one of them is in range, and the way back. No program in sight. The plain law of the road from the end, second half: the way back, chains of common pieces, and that the road is the shortest. Chains of common pieces: what they bound. The plain law of the road from both ends: the road from the start is the mirror of the road from the end; where they overlap. The plain law of the roads: small facts of common ends. The plain law of the way back of the road from the start. The plain law of pieces in order: pieces that lie apart, sorted by their beginnings, are a chain; pieces of a chain lie apart; overlap and fix. -/
namespace Go.Myers
def suf (E : Nat → Nat → Bool) : Nat → Nat → Nat
  | x + 1, y + 1 => if E x y = true then suf E x y + 1 else 0
  | 0, _ => 0
  | _ + 1, 0 => 0
variable {E : Nat → Nat → Bool}
theorem suf_le : ∀ x y, suf E x y ≤ x ∧ suf E x y ≤ y
  | 0, y => by simp [suf]
  | x + 1, 0 => by simp [suf]
  | x + 1, y + 1 => by
    unfold suf
    have := suf_le x y
    split <;> omega
theorem suf_eq : ∀ x y i, i < suf E x y → E (x - 1 - i) (y - 1 - i) = true
  | 0, y, i, h => by simp [suf] at h
  | x + 1, 0, i, h => by simp [suf] at h
  | x + 1, y + 1, i, h => by
    unfold suf at h
    split at h
    · rename_i c
      cases i with
      | zero => simpa using c
      | succ i =>
        have := suf_eq x y i (by omega)
        rwa [show x + 1 - 1 - (i + 1) = x - 1 - i by omega, show y + 1 - 1 - (i + 1) = y - 1 - i by omega]
    · omega
theorem suf_max : ∀ x y, suf E x y < x → suf E x y < y → E (x - 1 - suf E x y) (y - 1 - suf E x y) = false
  | 0, y, h, _ => by omega
  | x + 1, 0, _, h => by omega
  | x + 1, y + 1, h1, h2 => by
    unfold suf at *
    split
    · rename_i c
      rw [if_pos c] at h1 h2
      have := suf_max x y (by omega) (by omega)
      rwa [show x + 1 - 1 - (suf E x y + 1) = x - 1 - suf E x y by omega, show y + 1 - 1 - (suf E x y + 1) = y - 1 - suf E x y by omega]
    · rename_i c
      simpa using c
def look (E : Nat → Nat → Bool) (dl k r : Int) : Int :=
  if 0 < r ∧ 0 < r - (k + dl) then r - (suf E r.toNat (r - (k + dl)).toNat : Nat) else r
theorem look_le (dl k r : Int) : look E dl k r ≤ r := by unfold look; split <;> omega
theorem look_in {dl k r : Int} (h1 : 0 < r) (h2 : 0 < r - (k + dl)) : 0 ≤ look E dl k r ∧ 0 ≤ look E dl k r - (k + dl) := by
  unfold look
  have := suf_le (E := E) r.toNat (r - (k + dl)).toNat
  rw [if_pos ⟨h1, h2⟩]; omega
theorem look_out {dl k r : Int} (h : ¬ (0 < r ∧ 0 < r - (k + dl))) : look E dl k r = r := by unfold look; rw [if_neg h]
theorem look_eq {dl k r i : Int} (h1 : look E dl k r ≤ i) (h2 : i < r) : 0 ≤ i ∧ 0 ≤ i - (k + dl) ∧ E i.toNat (i - (k + dl)).toNat = true := by
  by_cases c : 0 < r ∧ 0 < r - (k + dl)
  · have b := look_in (E := E) c.1 c.2
    unfold look at h1 b
    rw [if_pos c] at h1 b
    have := suf_eq (E := E) r.toNat (r - (k + dl)).toNat (r - 1 - i).toNat (by omega)
    refine ⟨by omega, by omega, ?_⟩
    rwa [show r.toNat - 1 - (r - 1 - i).toNat = i.toNat by omega, show (r - (k + dl)).toNat - 1 - (r - 1 - i).toNat = (i - (k + dl)).toNat by omega] at this
  · rw [look_out c] at h1; omega
theorem look_max {dl k r : Int} (h1 : 0 < look E dl k r) (h2 : 0 < look E dl k r - (k + dl)) : E (look E dl k r - 1).toNat (look E dl k r - 1 - (k + dl)).toNat = false := by
  by_cases c : 0 < r ∧ 0 < r - (k + dl)
  · unfold look at *
    rw [if_pos c] at *
    have := suf_max (E := E) r.toNat (r - (k + dl)).toNat (by omega) (by omega)
    rwa [show r.toNat - 1 - suf E r.toNat (r - (k + dl)).toNat = (r - (suf E r.toNat (r - (k + dl)).toNat : Nat) - 1).toNat by omega,
      show (r - (k + dl)).toNat - 1 - suf E r.toNat (r - (k + dl)).toNat = (r - (suf E r.toNat (r - (k + dl)).toNat : Nat) - 1 - (k + dl)).toNat by omega] at this
  · rw [look_out c] at h1 h2; omega
theorem look_look (dl k r : Int) : look E dl k (look E dl k r) = look E dl k r := by
  have hle := look_le (E := E) dl k (look E dl k r)
  by_cases c : 0 < look E dl k r ∧ 0 < look E dl k r - (k + dl)
  · have m := look_max (E := E) c.1 c.2
    by_cases e : look E dl k (look E dl k r) = look E dl k r
    · exact e
    · have := look_eq (E := E) (dl := dl) (k := k) (r := look E dl k r) (i := look E dl k r - 1) (by omega) (by omega)
      rw [this.2.2] at m; cases m
  · exact look_out c
def lab (E : Nat → Nat → Bool) (N : Nat) (dl : Int) : Nat → Int → Int
  | 0, _ => look E dl 0 N
  | D + 1, k =>
    if k = -((D : Int) + 1) then look E dl k (lab E N dl D (-D) - 1) else
    if k = (D : Int) + 1 then look E dl k (lab E N dl D D) else
    if look E dl k (lab E N dl D (k - 1)) < look E dl k (lab E N dl D (k + 1) - 1) then look E dl k (lab E N dl D (k - 1)) else look E dl k (lab E N dl D (k + 1) - 1)
theorem lab_succ (E : Nat → Nat → Bool) (N : Nat) (dl : Int) (D : Nat) (k : Int) : lab E N dl (D + 1) k =
    if k = -((D : Int) + 1) then look E dl k (lab E N dl D (-D) - 1) else
    if k = (D : Int) + 1 then look E dl k (lab E N dl D D) else
    if look E dl k (lab E N dl D (k - 1)) < look E dl k (lab E N dl D (k + 1) - 1) then look E dl k (lab E N dl D (k - 1)) else look E dl k (lab E N dl D (k + 1) - 1) := rfl
def valid (D : Nat) (k : Int) : Prop := -(D : Int) ≤ k ∧ k ≤ D ∧ ((D : Int) + k) % 2 = 0
variable {N M : Nat} {dl : Int}
theorem lab_from (D : Nat) (k : Int) (hv : valid (D + 1) k) :
    (valid D (k - 1) ∧ lab E N dl (D + 1) k = look E dl k (lab E N dl D (k - 1))) ∨ (valid D (k + 1) ∧ lab E N dl (D + 1) k = look E dl k (lab E N dl D (k + 1) - 1)) := by
  obtain ⟨h1, h2, h3⟩ := hv
  rw [lab_succ]
  by_cases c1 : k = -((D : Int) + 1)
  · right
    rw [if_pos c1, show (-(D : Int)) = k + 1 by omega]
    exact ⟨⟨by omega, by omega, by omega⟩, rfl⟩
  · rw [if_neg c1]
    by_cases c2 : k = (D : Int) + 1
    · left
      rw [if_pos c2]
      refine ⟨⟨by omega, by omega, by omega⟩, ?_⟩
      rw [show k - 1 = (D : Int) by omega]
    · rw [if_neg c2]
      split
      · left; exact ⟨⟨by omega, by omega, by omega⟩, rfl⟩
      · right; exact ⟨⟨by omega, by omega, by omega⟩, rfl⟩
theorem lab_le_v (D : Nat) (k : Int) (hv : valid D k) : lab E N dl (D + 1) (k + 1) ≤ lab E N dl D k := by
  obtain ⟨h1, h2, h3⟩ := hv
  rw [lab_succ]
  rw [if_neg (by omega)]
  by_cases c2 : k + 1 = (D : Int) + 1
  · rw [if_pos c2, show (D : Int) = k by omega]; exact look_le _ _ _
  · rw [if_neg c2, show k + 1 - 1 = k by omega]
    have := look_le (E := E) dl (k + 1) (lab E N dl D k)
    split <;> omega
theorem lab_le_h (D : Nat) (k : Int) (hv : valid D k) : lab E N dl (D + 1) (k - 1) ≤ lab E N dl D k - 1 := by
  obtain ⟨h1, h2, h3⟩ := hv
  rw [lab_succ]
  by_cases c1 : k - 1 = -((D : Int) + 1)
  · rw [if_pos c1, show (-(D : Int)) = k by omega]; exact look_le _ _ _
  · rw [if_neg c1, if_neg (by omega), show k - 1 + 1 = k by omega]
    have := look_le (E := E) dl (k - 1) (lab E N dl D k - 1)
    split <;> omega
theorem lab_bound (hd : dl = (N : Int) - M) : ∀ (D : Nat) (k : Int), valid D k → lab E N dl D k ≤ N ∧ lab E N dl D k - (k + dl) ≤ M
  | 0, k, ⟨h1, h2, _⟩ => by
    obtain rfl : k = 0 := by omega
    have := look_le (E := E) dl 0 N
    simp only [lab]; omega
  | D + 1, k, hv => by
    rcases lab_from (E := E) (N := N) (dl := dl) D k hv with ⟨v, e⟩ | ⟨v, e⟩
    · have := lab_bound hd D _ v
      have l := look_le (E := E) dl k (lab E N dl D (k - 1))
      rw [e]; omega
    · have := lab_bound hd D _ v
      have l := look_le (E := E) dl k (lab E N dl D (k + 1) - 1)
      rw [e]; omega
theorem left_out (hN : 0 ≤ (N : Int)) : ∀ (D : Nat) (k : Int), valid D k → lab E N dl D k < 0 → k + 2 ≤ D ∧ lab E N dl D (k + 2) ≤ lab E N dl D k + 1
  | 0, k, ⟨h1, h2, _⟩, hx => by
    exfalso
    simp only [lab] at hx
    by_cases c : 0 < (N : Int) ∧ 0 < (N : Int) - (0 + dl)
    · have := look_in (E := E) (dl := dl) (k := 0) c.1 c.2; omega
    · rw [look_out c] at hx; omega
  | D + 1, k, hv, hx => by
    have hv' := hv
    obtain ⟨a1, a2, a3⟩ := hv'
    rcases lab_from (E := E) (N := N) (dl := dl) D k hv with ⟨v, e⟩ | ⟨v, e⟩
    · -- from above
      have ns : look E dl k (lab E N dl D (k - 1)) = lab E N dl D (k - 1) := by
        by_cases c : 0 < lab E N dl D (k - 1) ∧ 0 < lab E N dl D (k - 1) - (k + dl)
        · have := look_in (E := E) c.1 c.2; rw [e] at hx; omega
        · exact look_out c
      rw [e, ns] at hx ⊢
      have ih := left_out hN D (k - 1) v hx
      rw [show k - 1 + 2 = k + 1 by omega] at ih
      have := lab_le_v (E := E) (N := N) (dl := dl) D (k + 1) ⟨by omega, by omega, by omega⟩
      rw [show k + 1 + 1 = k + 2 by omega] at this
      constructor <;> omega
    · have ns : look E dl k (lab E N dl D (k + 1) - 1) = lab E N dl D (k + 1) - 1 := by
        by_cases c : 0 < lab E N dl D (k + 1) - 1 ∧ 0 < lab E N dl D (k + 1) - 1 - (k + dl)
        · have := look_in (E := E) c.1 c.2; rw [e] at hx; omega
        · exact look_out c
      rw [e, ns]
      have := lab_le_v (E := E) (N := N) (dl := dl) D (k + 1) v
      rw [show k + 1 + 1 = k + 2 by omega] at this
      obtain ⟨b1, b2, b3⟩ := v
      constructor <;> omega
theorem down_out (hM : dl = (N : Int) - M) : ∀ (D : Nat) (k : Int), valid D k → lab E N dl D k - (k + dl) < 0 → -(D : Int) ≤ k - 2 ∧ lab E N dl D (k - 2) ≤ lab E N dl D k - 1
  | 0, k, ⟨h1, h2, _⟩, hx => by
    exfalso
    obtain rfl : k = 0 := by omega
    simp only [lab] at hx
    by_cases c : 0 < (N : Int) ∧ 0 < (N : Int) - (0 + dl)
    · have := look_in (E := E) (dl := dl) (k := 0) c.1 c.2; omega
    · rw [look_out c] at hx; omega
  | D + 1, k, hv, hx => by
    have hv' := hv
    obtain ⟨a1, a2, a3⟩ := hv'
    rcases lab_from (E := E) (N := N) (dl := dl) D k hv with ⟨v, e⟩ | ⟨v, e⟩
    · have ns : look E dl k (lab E N dl D (k - 1)) = lab E N dl D (k - 1) := by
        by_cases c : 0 < lab E N dl D (k - 1) ∧ 0 < lab E N dl D (k - 1) - (k + dl)
        · have := look_in (E := E) c.1 c.2; rw [e] at hx; omega
        · exact look_out c
      rw [e, ns]
      have := lab_le_h (E := E) (N := N) (dl := dl) D (k - 1) v
      rw [show k - 1 - 1 = k - 2 by omega] at this
      obtain ⟨b1, b2, b3⟩ := v
      constructor <;> omega
    · have ns : look E dl k (lab E N dl D (k + 1) - 1) = lab E N dl D (k + 1) - 1 := by
        by_cases c : 0 < lab E N dl D (k + 1) - 1 ∧ 0 < lab E N dl D (k + 1) - 1 - (k + dl)
        · have := look_in (E := E) c.1 c.2; rw [e] at hx; omega
        · exact look_out c
      rw [e, ns] at hx ⊢
      have ih := down_out hM D (k + 1) v (by omega)
      rw [show k + 1 - 2 = k - 1 by omega] at ih
      have := lab_le_h (E := E) (N := N) (dl := dl) D (k - 1) ⟨by omega, by omega, by omega⟩
      rw [show k - 1 - 1 = k - 2 by omega] at this
      constructor <;> omega
def sm (E : Nat → Nat → Bool) (N : Nat) (dl : Int) (D : Nat) (k : Int) : Int := 2 * lab E N dl D k - (k + dl)
theorem to_zero (hM : dl = (N : Int) - M) (D : Nat) : ∀ (n : Nat) (k : Int), (k + dl).natAbs ≤ n → (k + dl) % 2 = 0 → valid D k → sm E N dl D k ≤ 0 → valid D (-dl) ∧ sm E N dl D (-dl) ≤ 0
  | 0, k, hn, _, hv, hs => by
    obtain rfl : k = -dl := by omega
    exact ⟨hv, hs⟩
  | n + 1, k, hn, hp, hv, hs => by
    by_cases c0 : k + dl = 0
    · obtain rfl : k = -dl := by omega
      exact ⟨hv, hs⟩
    · have hv' := hv
      obtain ⟨a1, a2, a3⟩ := hv'
      by_cases c : k + dl < 0
      · have := left_out (E := E) (dl := dl) (by omega : 0 ≤ (N : Int)) D k hv (by unfold sm at hs; omega)
        exact to_zero hM D n (k + 2) (by omega) (by omega) ⟨by omega, by omega, by omega⟩ (by unfold sm at hs ⊢; omega)
      · have := down_out (E := E) hM D k hv (by unfold sm at hs; omega)
        exact to_zero hM D n (k - 2) (by omega) (by omega) ⟨by omega, by omega, by omega⟩ (by unfold sm at hs ⊢; omega)
def open_ (E : Nat → Nat → Bool) (N : Nat) (dl : Int) (D : Nat) : Prop := ∀ d, d ≤ D → valid d (-dl) → lab E N dl d (-dl) ≠ 0
theorem sum_pos (hM : dl = (N : Int) - M) : ∀ D, open_ E N dl D → ∀ k, valid D k → 1 ≤ sm E N dl D k
  | 0, ho, k, hv => by
    have hv' := hv
    obtain ⟨a1, a2, _⟩ := hv'
    obtain rfl : k = 0 := by omega
    have h0 : 0 ≤ lab E N dl 0 0 ∧ 0 ≤ lab E N dl 0 0 - (0 + dl) := by
      simp only [lab]
      by_cases c : 0 < (N : Int) ∧ 0 < (N : Int) - (0 + dl)
      · exact look_in (E := E) (dl := dl) (k := 0) c.1 c.2
      · rw [look_out c]; omega
    by_cases c : sm E N dl 0 0 ≤ 0
    · exfalso
      unfold sm at c
      have e : dl = 0 := by omega
      have := ho 0 (Nat.le_refl _) (by rw [e]; exact ⟨by omega, by omega, by omega⟩)
      rw [e] at this h0 c
      apply this; show lab E N 0 0 0 = 0; omega
    · omega
  | D + 1, ho, k, hv => by
    have ih := sum_pos hM D (fun d hd => ho d (by omega))
    have nn : ∀ k, valid (D + 1) k → 0 ≤ sm E N dl (D + 1) k := by
      intro k hv
      rcases lab_from (E := E) (N := N) (dl := dl) D k hv with ⟨v, e⟩ | ⟨v, e⟩
      · have i1 := ih _ v
        unfold sm at i1 ⊢
        rw [e]
        by_cases c : 0 < lab E N dl D (k - 1) ∧ 0 < lab E N dl D (k - 1) - (k + dl)
        · have := look_in (E := E) c.1 c.2; omega
        · rw [look_out c]; omega
      · have i1 := ih _ v
        unfold sm at i1 ⊢
        rw [e]
        by_cases c : 0 < lab E N dl D (k + 1) - 1 ∧ 0 < lab E N dl D (k + 1) - 1 - (k + dl)
        · have := look_in (E := E) c.1 c.2; omega
        · rw [look_out c]; omega
    by_cases c : sm E N dl (D + 1) k ≤ 0
    · exfalso
      have h0 := nn k hv
      have hp : (k + dl) % 2 = 0 := by unfold sm at c h0; omega
      obtain ⟨v0, s0⟩ := to_zero (E := E) hM (D + 1) (k + dl).natAbs k (Nat.le_refl _) hp hv c
      have := nn _ v0
      refine ho (D + 1) (Nat.le_refl _) v0 ?_
      unfold sm at this s0
      omega
    · omega
theorem in_range (hM : dl = (N : Int) - M) (D : Nat) (ho : open_ E N dl D) : ∃ k, valid D k ∧ 0 ≤ lab E N dl D k ∧ 0 ≤ lab E N dl D k - (k + dl) := by
  have hs := sum_pos (E := E) hM D ho
  -- the diagonal nearest to the start's
  by_cases c1 : (D : Int) + dl < 0
  · -- all lie to one side
    refine ⟨D, ⟨by omega, by omega, by omega⟩, ?_⟩
    have v : valid D (D : Int) := ⟨by omega, by omega, by omega⟩
    have s := hs _ v
    unfold sm at s
    by_cases cx : lab E N dl D D < 0
    · have := left_out (E := E) (dl := dl) (by omega : 0 ≤ (N : Int)) D D v cx; omega
    · omega
  · by_cases c2 : 0 < -(D : Int) + dl
    · refine ⟨-D, ⟨by omega, by omega, by omega⟩, ?_⟩
      have v : valid D (-(D : Int)) := ⟨by omega, by omega, by omega⟩
      have s := hs _ v
      unfold sm at s
      by_cases cy : lab E N dl D (-(D : Int)) - (-(D : Int) + dl) < 0
      · have := down_out (E := E) hM D (-(D : Int)) v cy; omega
      · omega
    · by_cases c3 : ((D : Int) - dl) % 2 = 0
      · have v : valid D (-dl) := ⟨by omega, by omega, by omega⟩
        have s := hs _ v
        unfold sm at s
        exact ⟨-dl, v, by omega, by omega⟩
      · by_cases c4 : -(D : Int) ≤ -1 - dl
        · have v : valid D (-1 - dl) := ⟨by omega, by omega, by omega⟩
          have s := hs _ v
          unfold sm at s
          exact ⟨-1 - dl, v, by omega, by omega⟩
        · have v : valid D (1 - dl) := ⟨by omega, by omega, by omega⟩
          have s := hs _ v
          unfold sm at s
          exact ⟨1 - dl, v, by omega, by omega⟩
end Go.Myers
namespace Go.Myers
variable {E : Nat → Nat → Bool} {N M : Nat} {dl : Int}
structure Dg where
  x : Int
  y : Int
  len : Int
instance : Inhabited Dg := ⟨⟨0, 0, 0⟩⟩
def Chain (E : Nat → Nat → Bool) (N M : Nat) : List Dg → Int → Int → Prop
  | [], _, _ => True
  | d :: t, px, py => px ≤ d.x ∧ py ≤ d.y ∧ 0 < d.len ∧ d.x + d.len ≤ N ∧ d.y + d.len ≤ M ∧ (∀ i : Nat, (i : Int) < d.len → E (d.x.toNat + i) (d.y.toNat + i) = true) ∧ Chain E N M t (d.x + d.len) (d.y + d.len)
def endX : List Dg → Int → Int
  | [], p => p
  | d :: t, _ => endX t (d.x + d.len)
def endY : List Dg → Int → Int
  | [], p => p
  | d :: t, _ => endY t (d.y + d.len)
def total : List Dg → Int
  | [] => 0
  | d :: t => d.len + total t
def appendD : List Dg → Int → Int → List Dg
  | [], x, y => [⟨x, y, 1⟩]
  | [d], x, y => if d.x + d.len = x ∧ d.y + d.len = y then [⟨d.x, d.y, d.len + 1⟩] else [d, ⟨x, y, 1⟩]
  | d :: e :: t, x, y => d :: appendD (e :: t) x y
theorem total_append : ∀ (l : List Dg) (x y : Int), total (appendD l x y) = total l + 1
  | [], x, y => by simp [appendD, total]
  | [d], x, y => by unfold appendD; split <;> simp [total] <;> omega
  | d :: e :: t, x, y => by
    have := total_append (e :: t) x y
    simp only [appendD, total] at *; omega
theorem end_append : ∀ (l : List Dg) (x y px py : Int), endX (appendD l x y) px = x + 1 ∧ endY (appendD l x y) py = y + 1
  | [], x, y, px, py => by simp [appendD, endX, endY]
  | [d], x, y, px, py => by
    unfold appendD; split
    · simp only [endX, endY]; omega
    · simp [endX, endY]
  | d :: e :: t, x, y, px, py => by
    simp only [appendD, endX, endY]
    exact end_append (e :: t) x y _ _
theorem chain_append : ∀ (l : List Dg) (x y px py : Int), 0 ≤ px → 0 ≤ py → Chain E N M l px py → endX l px ≤ x → endY l py ≤ y → x < N → y < M → E x.toNat y.toNat = true → Chain E N M (appendD l x y) px py
  | [], x, y, px, py, h0, h1, _, hx, hy, hN, hM, hE => by
    simp only [endX, endY] at hx hy
    refine ⟨hx, hy, by show (0 : Int) < 1; omega, by show x + 1 ≤ N; omega, by show y + 1 ≤ M; omega, fun i hi => ?_, trivial⟩
    obtain rfl : i = 0 := by simp at hi; omega
    simpa using hE
  | [d], x, y, px, py, h0, h1, ⟨c1, c2, c3, c4, c5, c6, _⟩, hx, hy, hN, hM, hE => by
    simp only [endX, endY] at hx hy
    unfold appendD
    split
    · rename_i c
      refine ⟨c1, c2, by show 0 < d.len + 1; omega, by show d.x + (d.len + 1) ≤ N; omega, by show d.y + (d.len + 1) ≤ M; omega, fun i hi => ?_, trivial⟩
      by_cases ci : (i : Int) < d.len
      · exact c6 i ci
      · have hi' : (i : Int) < d.len + 1 := hi
        have e1 : d.x.toNat + i = x.toNat := by omega
        have e2 : d.y.toNat + i = y.toNat := by omega
        show E (d.x.toNat + i) (d.y.toNat + i) = true
        rw [e1, e2]; exact hE
    · refine ⟨c1, c2, c3, c4, c5, c6, hx, hy, by show (0 : Int) < 1; omega, by show x + 1 ≤ N; omega, by show y + 1 ≤ M; omega, fun i hi => ?_, trivial⟩
      obtain rfl : i = 0 := by simp at hi; omega
      simpa using hE
  | d :: e :: t, x, y, px, py, h0, h1, ⟨c1, c2, c3, c4, c5, c6, c7⟩, hx, hy, hN, hM, hE =>
    ⟨c1, c2, c3, c4, c5, c6, chain_append (e :: t) x y _ _ (by omega) (by omega) c7 hx hy hN hM hE⟩
structure Back (E : Nat → Nat → Bool) (N M : Nat) (dl : Int) (D : Nat) (k x : Int) : Prop where
  v : valid D k
  x0 : 0 ≤ x
  y0 : 0 ≤ x - (k + dl)
  xN : x ≤ N
  yM : x - (k + dl) ≤ M
  lo : lab E N dl D k ≤ x
  hi : ∃ r, x ≤ r ∧ ((D = 0 ∧ r = N) ∨ (∃ d, D = d + 1 ∧ ((valid d (k - 1) ∧ r = lab E N dl d (k - 1)) ∨ (valid d (k + 1) ∧ r = lab E N dl d (k + 1) - 1)))) ∧ ∀ i, x ≤ i → i < r → E i.toNat (i - (k + dl)).toNat = true
theorem Back.start (hd : dl = (N : Int) - M) {D : Nat} {k : Int} (hv : valid D k) (h0 : 0 ≤ lab E N dl D k) (h1 : 0 ≤ lab E N dl D k - (k + dl)) : Back E N M dl D k (lab E N dl D k) := by
  have hb := lab_bound (E := E) hd D k hv
  refine ⟨hv, h0, h1, hb.1, hb.2, Int.le_refl _, ?_⟩
  cases D with
  | zero =>
    obtain ⟨a, b, _⟩ := hv
    obtain rfl : k = 0 := by omega
    simp only [lab] at *
    exact ⟨N, look_le _ _ _, Or.inl ⟨trivial, rfl⟩, fun i h2 h3 => (look_eq (E := E) h2 h3).2.2⟩
  | succ d =>
    rcases lab_from (E := E) (N := N) (dl := dl) d k hv with ⟨v, e⟩ | ⟨v, e⟩
    · refine ⟨_, ?_, Or.inr ⟨d, rfl, Or.inl ⟨v, rfl⟩⟩, fun i h2 h3 => ?_⟩
      · rw [e]; exact look_le _ _ _
      · rw [e] at h2; exact (look_eq (E := E) h2 h3).2.2
    · refine ⟨_, ?_, Or.inr ⟨d, rfl, Or.inr ⟨v, rfl⟩⟩, fun i h2 h3 => ?_⟩
      · rw [e]; exact look_le _ _ _
      · rw [e] at h2; exact (look_eq (E := E) h2 h3).2.2
theorem Back.up (hd : dl = (N : Int) - M) {d : Nat} {k x : Int} (h : Back E N M dl (d + 1) k x) (hv : valid d (k - 1)) (he : x = lab E N dl d (k - 1)) : Back E N M dl d (k - 1) x := by
  have hb := lab_bound (E := E) hd d (k - 1) hv
  have y0 := h.y0
  have := Back.start (E := E) (M := M) hd hv (by rw [← he]; exact h.x0) (by rw [← he]; omega)
  rwa [← he] at this
theorem Back.right (hd : dl = (N : Int) - M) {d : Nat} {k x : Int} (h : Back E N M dl (d + 1) k x) (hv : valid d (k + 1)) (he : x + 1 = lab E N dl d (k + 1)) : Back E N M dl d (k + 1) (x + 1) := by
  have x0 := h.x0
  have y0 := h.y0
  have := Back.start (E := E) (M := M) hd hv (by rw [← he]; omega) (by rw [← he]; omega)
  rwa [← he] at this
theorem Back.diag (hd : dl = (N : Int) - M) {D : Nat} {k x : Int} (h : Back E N M dl D k x) (hne : ¬ (x = N ∧ x - (k + dl) = M)) (h1 : ∀ d, D = d + 1 → valid d (k - 1) → x ≠ lab E N dl d (k - 1)) (h2 : ∀ d, D = d + 1 → valid d (k + 1) → x + 1 ≠ lab E N dl d (k + 1)) :
    Back E N M dl D k (x + 1) ∧ E x.toNat (x - (k + dl)).toNat = true ∧ x < N ∧ x - (k + dl) < M := by
  obtain ⟨r, hr, hc, he⟩ := h.hi
  have hlt : x < r := by
    rcases hc with ⟨rfl, rfl⟩ | ⟨d, rfl, ⟨v, rfl⟩ | ⟨v, rfl⟩⟩
    · have v := h.v
      obtain ⟨a, b, _⟩ := v
      have := h.xN
      have := h.yM
      by_cases c : x = N
      · exfalso; apply hne; omega
      · omega
    · have := h1 d rfl v; omega
    · have := h2 d rfl v; omega
  have hrb : r ≤ N ∧ r - (k + dl) ≤ M := by
    rcases hc with ⟨rfl, rfl⟩ | ⟨d, rfl, ⟨v, rfl⟩ | ⟨v, rfl⟩⟩
    · have v := h.v
      obtain ⟨a, b, _⟩ := v
      omega
    · have := lab_bound (E := E) hd d _ v; omega
    · have := lab_bound (E := E) hd d _ v; omega
  have x0 := h.x0
  have y0 := h.y0
  have lo := h.lo
  exact ⟨⟨h.v, by omega, by omega, by omega, by omega, by omega, r, by omega, hc, fun i a b => he i (by omega) b⟩, he x (Int.le_refl _) hlt, by omega, by omega⟩
end Go.Myers
set_option linter.unusedVariables false
namespace Go.Myers
variable {E : Nat → Nat → Bool} {N M : Nat}
theorem chain_in : ∀ (l : List Dg) (px py : Int), 0 ≤ px → 0 ≤ py → Chain E N M l px py → ∀ d ∈ l, 0 ≤ d.x ∧ d.x ≤ N ∧ 0 ≤ d.y ∧ d.y ≤ M ∧ 0 < d.len ∧ d.len ≤ N ∧ d.len ≤ M
  | [], _, _, _, _, _ => by simp
  | d :: t, px, py, h0, h1, ⟨c1, c2, c3, c4, c5, _, c6⟩ => by
    intro e he
    rcases List.mem_cons.1 he with rfl | he
    · omega
    · exact chain_in t _ _ (by omega) (by omega) c6 e he
theorem chain_end : ∀ (l : List Dg) (px py : Int), Chain E N M l px py → px + total l ≤ endX l px ∧ py + total l ≤ endY l py ∧ (l.length : Int) ≤ total l
  | [], _, _, _ => by simp [total, endX, endY]
  | d :: t, px, py, ⟨c1, c2, c3, c4, c5, _, c6⟩ => by
    have := chain_end t _ _ c6
    simp only [total, endX, endY, List.length_cons]
    omega
theorem chain_le : ∀ (l : List Dg) (px py : Int), px ≤ N → py ≤ M → Chain E N M l px py → endX l px ≤ N ∧ endY l py ≤ M
  | [], _, _, h0, h1, _ => ⟨h0, h1⟩
  | d :: t, px, py, _, _, ⟨c1, c2, c3, c4, c5, _, c6⟩ => chain_le t _ _ c4 c5 c6
theorem chain_mono : ∀ (l : List Dg) (px py qx qy : Int), qx ≤ px → qy ≤ py → Chain E N M l px py → Chain E N M l qx qy
  | [], _, _, _, _, _, _, _ => trivial
  | d :: t, px, py, qx, qy, h0, h1, ⟨c1, c2, c3, c4, c5, ce, c6⟩ => ⟨Int.le_trans h0 c1, Int.le_trans h1 c2, c3, c4, c5, ce, c6⟩
theorem look_lo {dl k r b : Int} (hb : b ≤ 0) (h : b ≤ r) : b ≤ look E dl k r := by
  by_cases c : 0 < r ∧ 0 < r - (k + dl)
  · have := look_in (E := E) c.1 c.2; omega
  · rw [look_out c]; exact h
theorem lab_lo {dl : Int} : ∀ (D : Nat) (k : Int), valid D k → -(D : Int) ≤ lab E N dl D k
  | 0, k, _ => look_lo (by omega) (by omega)
  | D + 1, k, hv => by
    rcases lab_from (E := E) (N := N) (dl := dl) D k hv with ⟨v, e⟩ | ⟨v, e⟩
    · have := lab_lo (dl := dl) D _ v
      rw [e]; exact look_lo (by omega) (by omega)
    · have := lab_lo (dl := dl) D _ v
      rw [e]; exact look_lo (by omega) (by omega)
theorem open_next {dl : Int} {D : Nat} (h : ∀ d, d + 1 = D → open_ E N dl d) (hz : ∀ k, valid D k → ¬ (lab E N dl D k = 0 ∧ lab E N dl D k - (k + dl) = 0)) : open_ E N dl D := by
  intro d hd hv h0
  rcases Nat.lt_or_ge d D with c | c
  · exact h (D - 1) (by omega) d (by omega) hv h0
  · obtain rfl : d = D := by omega
    exact hz _ hv ⟨h0, by rw [h0]; omega⟩
end Go.Myers
namespace Go.Myers
variable {E : Nat → Nat → Bool} {N M : Nat} {dl : Int}
def mir (E : Nat → Nat → Bool) (N M : Nat) : Nat → Nat → Bool := fun i j => E (N - 1 - i) (M - 1 - j)
def flab (E : Nat → Nat → Bool) (N M : Nat) (D : Nat) (k : Int) : Int := (N : Int) - lab (mir E N M) N ((N : Int) - M) D (-k)
def lookF (E : Nat → Nat → Bool) (N M : Nat) (k r : Int) : Int := (N : Int) - look (mir E N M) ((N : Int) - M) (-k) ((N : Int) - r)
theorem valid_neg {D : Nat} {k : Int} (h : valid D k) : valid D (-k) := by
  obtain ⟨a, b, c⟩ := h
  exact ⟨by omega, by omega, by omega⟩
theorem flab_zero (E : Nat → Nat → Bool) (N M : Nat) (k : Int) : flab E N M 0 k = lookF E N M 0 0 := by
  unfold flab lookF
  rw [show lab (mir E N M) N ((N : Int) - M) 0 (-k) = look (mir E N M) ((N : Int) - M) 0 N from rfl, Int.neg_zero, Int.sub_zero]
theorem flab_low (E : Nat → Nat → Bool) (N M D : Nat) : flab E N M (D + 1) (-((D : Int) + 1)) = lookF E N M (-((D : Int) + 1)) (flab E N M D (-(D : Int))) := by
  unfold flab lookF
  rw [lab_succ, if_neg (by omega), if_pos (by omega), Int.neg_neg, Int.neg_neg]
  congr 2
  omega
theorem flab_high (E : Nat → Nat → Bool) (N M D : Nat) : flab E N M (D + 1) ((D : Int) + 1) = lookF E N M ((D : Int) + 1) (flab E N M D (D : Int) + 1) := by
  unfold flab lookF
  rw [lab_succ, if_pos rfl]
  congr 2
  omega
theorem flab_mid (E : Nat → Nat → Bool) (N M D : Nat) {k : Int} (h1 : -(D : Int) + 1 ≤ k) (h2 : k ≤ (D : Int) - 1) :
    flab E N M (D + 1) k = if lookF E N M k (flab E N M D (k - 1) + 1) > lookF E N M k (flab E N M D (k + 1)) then lookF E N M k (flab E N M D (k - 1) + 1) else lookF E N M k (flab E N M D (k + 1)) := by
  have e1 : lookF E N M k (flab E N M D (k - 1) + 1) = (N : Int) - look (mir E N M) ((N : Int) - M) (-k) (lab (mir E N M) N ((N : Int) - M) D (-k + 1) - 1) := by
    unfold flab lookF
    rw [show -(k - 1) = -k + 1 by omega]
    congr 2
    omega
  have e2 : lookF E N M k (flab E N M D (k + 1)) = (N : Int) - look (mir E N M) ((N : Int) - M) (-k) (lab (mir E N M) N ((N : Int) - M) D (-k - 1)) := by
    unfold flab lookF
    rw [show -(k + 1) = -k - 1 by omega]
    congr 2
    omega
  rw [e1, e2]
  unfold flab
  rw [lab_succ, if_neg (by omega), if_neg (by omega)]
  split <;> split <;> omega
theorem lookF_lookF (E : Nat → Nat → Bool) (N M : Nat) (k r : Int) : lookF E N M k (lookF E N M k r) = lookF E N M k r := by
  unfold lookF
  rw [show (N : Int) - ((N : Int) - look (mir E N M) ((N : Int) - M) (-k) ((N : Int) - r)) = look (mir E N M) ((N : Int) - M) (-k) ((N : Int) - r) by omega, look_look]
theorem lookF_in {k r : Int} (h1 : r < N) (h2 : r - k < M) : lookF E N M k r = r + suf (mir E N M) ((N : Int) - r).toNat ((M : Int) - (r - k)).toNat := by
  unfold lookF look
  rw [if_pos ⟨by omega, by omega⟩, show (N : Int) - r - (-k + ((N : Int) - M)) = (M : Int) - (r - k) by omega]
  omega
theorem lookF_out {k r : Int} (h : ¬ (r < N ∧ r - k < M)) : lookF E N M k r = r := by
  unfold lookF
  rw [look_out (fun hh => h ⟨by omega, by omega⟩)]
  omega
theorem lookF_ge (k r : Int) : r ≤ lookF E N M k r := by
  have := look_le (E := mir E N M) ((N : Int) - M) (-k) ((N : Int) - r)
  unfold lookF; omega
theorem flab_bound {D : Nat} {k : Int} (hv : valid D k) : 0 ≤ flab E N M D k ∧ 0 ≤ flab E N M D k - k := by
  have := lab_bound (E := mir E N M) (N := N) (M := M) (dl := (N : Int) - M) rfl D (-k) (valid_neg hv)
  unfold flab; omega
theorem flab_hi {D : Nat} {k : Int} (hv : valid D k) : flab E N M D k ≤ (N : Int) + D := by
  have := lab_lo (E := mir E N M) (N := N) (dl := (N : Int) - M) D (-k) (valid_neg hv)
  unfold flab; omega
def mirD (N M : Nat) (l : List Dg) : List Dg := (l.map fun d => (⟨(N : Int) - d.x - d.len, (M : Int) - d.y - d.len, d.len⟩ : Dg)).reverse
def prependD : List Dg → Int → Int → List Dg
  | [], x, y => [⟨x, y, 1⟩]
  | d :: t, x, y => if d.x = x + 1 ∧ d.y = y + 1 then ⟨x, y, d.len + 1⟩ :: t else ⟨x, y, 1⟩ :: d :: t
theorem appendD_snoc : ∀ (l : List Dg) (d : Dg) (x y : Int), appendD (l ++ [d]) x y = if d.x + d.len = x ∧ d.y + d.len = y then l ++ [⟨d.x, d.y, d.len + 1⟩] else l ++ [d, ⟨x, y, 1⟩]
  | [], d, x, y => by simp [appendD]
  | [e], d, x, y => by simp only [List.cons_append, List.nil_append, appendD]; split <;> rfl
  | e :: f :: t, d, x, y => by
    have := appendD_snoc (f :: t) d x y
    simp only [List.cons_append, appendD] at this ⊢
    rw [this]; split <;> rfl
theorem mirD_append (l : List Dg) (x y : Int) : mirD N M (appendD l x y) = prependD (mirD N M l) ((N : Int) - x - 1) ((M : Int) - y - 1) := by
  rcases List.eq_nil_or_concat l with rfl | ⟨t, d, rfl⟩
  · simp [mirD, appendD, prependD]
  · rw [List.concat_eq_append, appendD_snoc]
    unfold mirD
    rw [List.map_append, List.reverse_append]
    simp only [List.map_cons, List.map_nil, List.reverse_cons, List.reverse_nil, List.nil_append, List.cons_append, prependD]
    by_cases h : d.x + d.len = x ∧ d.y + d.len = y
    · rw [if_pos h, if_pos (by omega), List.map_append, List.reverse_append]
      simp only [List.map_cons, List.map_nil, List.reverse_cons, List.reverse_nil, List.nil_append, List.cons_append]
      congr 2 <;> omega
    · rw [if_neg h, if_neg (by omega), List.map_append, List.reverse_append]
      simp only [List.map_cons, List.map_nil, List.reverse_cons, List.reverse_nil, List.nil_append, List.cons_append]
      first | (congr 2; omega) | (congr 2 <;> omega) | done
theorem mirD_length (l : List Dg) : (mirD N M l).length = l.length := by simp [mirD]
theorem chain_concat {a b : Nat} : ∀ (l1 l2 : List Dg) (p q : Int), p ≤ a → q ≤ b → Chain E a b l1 p q → Chain E N M l2 a b → a ≤ N → b ≤ M → Chain E N M (l1 ++ l2) p q
  | [], l2, p, q, hp, hq, _, h2, _, _ => chain_mono l2 a b p q hp hq h2
  | d :: t, l2, p, q, hp, hq, ⟨c1, c2, c3, c4, c5, c6, c7⟩, h2, ha, hb => ⟨c1, c2, c3, by omega, by omega, c6, chain_concat t l2 _ _ c4 c5 c7 h2 ha hb⟩
theorem chain_widen {a b : Nat} : ∀ (l : List Dg) (p q : Int), Chain E a b l p q → a ≤ N → b ≤ M → Chain E N M l p q
  | [], _, _, _, _, _ => trivial
  | d :: t, p, q, ⟨c1, c2, c3, c4, c5, c6, c7⟩, ha, hb => ⟨c1, c2, c3, by omega, by omega, c6, chain_widen t _ _ c7 ha hb⟩
theorem chain_mir : ∀ (l : List Dg) (px py : Int) (X Y : Nat), 0 ≤ px → 0 ≤ py → (X : Int) = (N : Int) - px → (Y : Int) = (M : Int) - py → Chain (mir E N M) N M l px py → Chain E X Y (mirD N M l) 0 0
  | [], px, py, X, Y, _, _, _, _, _ => trivial
  | d :: t, px, py, X, Y, h0, h1, hX, hY, ⟨c1, c2, c3, c4, c5, c6, c7⟩ => by
    have e1 : mirD N M (d :: t) = mirD N M t ++ [⟨(N : Int) - d.x - d.len, (M : Int) - d.y - d.len, d.len⟩] := by simp [mirD]
    rw [e1]
    have ih := chain_mir t (d.x + d.len) (d.y + d.len) ((N : Int) - (d.x + d.len)).toNat ((M : Int) - (d.y + d.len)).toNat (by omega) (by omega) (by omega) (by omega) c7
    refine chain_concat _ _ 0 0 (by omega) (by omega) ih ⟨by show _ ≤ (N : Int) - d.x - d.len; omega, by show _ ≤ (M : Int) - d.y - d.len; omega, c3, by show (N : Int) - d.x - d.len + d.len ≤ X; omega, by show (M : Int) - d.y - d.len + d.len ≤ Y; omega, fun i hi => ?_, trivial⟩ (by omega) (by omega)
    have hi' : (i : Int) < d.len := hi
    have := c6 (d.len.toNat - 1 - i) (by omega)
    unfold mir at this
    show E (((N : Int) - d.x - d.len).toNat + i) (((M : Int) - d.y - d.len).toNat + i) = true
    rw [← this]
    congr 1 <;> omega
theorem sum_nn (hM : dl = (N : Int) - M) : ∀ D, (∀ d, d + 1 = D → open_ E N dl d) → ∀ k, valid D k → 0 ≤ sm E N dl D k
  | 0, _, k, hv => by
    obtain ⟨a1, a2, _⟩ := hv
    obtain rfl : k = 0 := by omega
    have h0 : 0 ≤ lab E N dl 0 0 ∧ 0 ≤ lab E N dl 0 0 - (0 + dl) := by
      simp only [lab]
      by_cases c : 0 < (N : Int) ∧ 0 < (N : Int) - (0 + dl)
      · exact look_in (E := E) (dl := dl) (k := 0) c.1 c.2
      · rw [look_out c]; omega
    unfold sm; omega
  | D + 1, ho, k, hv => by
    have ih := sum_pos (E := E) hM D (ho D rfl)
    rcases lab_from (E := E) (N := N) (dl := dl) D k hv with ⟨v, e⟩ | ⟨v, e⟩
    · have i1 := ih _ v
      unfold sm at i1 ⊢
      rw [e]
      by_cases c : 0 < lab E N dl D (k - 1) ∧ 0 < lab E N dl D (k - 1) - (k + dl)
      · have := look_in (E := E) c.1 c.2; omega
      · rw [look_out c]; omega
    · have i1 := ih _ v
      unfold sm at i1 ⊢
      rw [e]
      by_cases c : 0 < lab E N dl D (k + 1) - 1 ∧ 0 < lab E N dl D (k + 1) - 1 - (k + dl)
      · have := look_in (E := E) c.1 c.2; omega
      · rw [look_out c]; omega
theorem in_range' (hM : dl = (N : Int) - M) (D : Nat) (ho : ∀ d, d + 1 = D → open_ E N dl d) : ∃ k, valid D k ∧ 0 ≤ lab E N dl D k ∧ 0 ≤ lab E N dl D k - (k + dl) := by
  by_cases h : valid D (-dl) ∧ lab E N dl D (-dl) = 0
  · exact ⟨-dl, h.1, by omega, by omega⟩
  · refine in_range hM D (fun d hd hv e => ?_)
    by_cases e2 : d = D
    · subst e2; exact h ⟨hv, e⟩
    · exact ho (D - 1) (by omega) d (by omega) hv e
theorem left_zero (D : Nat) : ∀ (n : Nat) (k : Int), ((D : Int) - k).toNat ≤ n → valid D k → lab E N dl D k < 0 → ∃ j : Nat, 0 < j ∧ valid D (k + 2 * j) ∧ lab E N dl D (k + 2 * j) = 0
  | n, k, hn, hv, hx => by
    obtain ⟨h1, h2⟩ := left_out (E := E) (dl := dl) (by omega : 0 ≤ (N : Int)) D k hv hx
    obtain ⟨a, b, p⟩ := hv
    have hv2 : valid D (k + 2) := ⟨by omega, by omega, by omega⟩
    by_cases c : lab E N dl D (k + 2) < 0
    · cases n with
      | zero => omega
      | succ n =>
        obtain ⟨j, hj, hv3, hl⟩ := left_zero D n (k + 2) (by omega) hv2 c
        refine ⟨j + 1, by omega, ?_, ?_⟩
        · rwa [show k + 2 * ((j + 1 : Nat) : Int) = k + 2 + 2 * j by omega]
        · rwa [show k + 2 * ((j + 1 : Nat) : Int) = k + 2 + 2 * j by omega]
    · exact ⟨1, by omega, by rwa [show k + 2 * ((1 : Nat) : Int) = k + 2 by omega], by rw [show k + 2 * ((1 : Nat) : Int) = k + 2 by omega]; omega⟩
theorem down_zero (hM : dl = (N : Int) - M) (D : Nat) : ∀ (n : Nat) (k : Int), ((D : Int) + k).toNat ≤ n → valid D k → lab E N dl D k - (k + dl) < 0 → ∃ j : Nat, 0 < j ∧ valid D (k - 2 * j) ∧ lab E N dl D (k - 2 * j) - (k - 2 * j + dl) = 0
  | n, k, hn, hv, hx => by
    obtain ⟨h1, h2⟩ := down_out (E := E) hM D k hv hx
    obtain ⟨a, b, p⟩ := hv
    have hv2 : valid D (k - 2) := ⟨by omega, by omega, by omega⟩
    by_cases c : lab E N dl D (k - 2) - (k - 2 + dl) < 0
    · cases n with
      | zero => omega
      | succ n =>
        obtain ⟨j, hj, hv3, hl⟩ := down_zero hM D n (k - 2) (by omega) hv2 c
        refine ⟨j + 1, by omega, ?_, ?_⟩
        · rwa [show k - 2 * ((j + 1 : Nat) : Int) = k - 2 - 2 * j by omega]
        · rwa [show k - 2 * ((j + 1 : Nat) : Int) = k - 2 - 2 * j by omega]
    · exact ⟨1, by omega, by rwa [show k - 2 * ((1 : Nat) : Int) = k - 2 by omega], by rw [show k - 2 * ((1 : Nat) : Int) = k - 2 by omega]; omega⟩
def Apart2 (E : Nat → Nat → Bool) (N M : Nat) (df db : Nat) : Prop := ∀ k, valid df k → valid db (k - ((N : Int) - M)) → flab E N M df k < lab E N ((N : Int) - M) db (k - ((N : Int) - M))
def Before2 (E : Nat → Nat → Bool) (N M : Nat) (df db : Nat) : Prop :=
  (∀ d, d < db → Apart2 E N M d d ∧ Apart2 E N M (d + 1) d) ∧ (df = db ∨ (df = db + 1 ∧ Apart2 E N M db db))
theorem open_back {df db : Nat} (h : Before2 E N M df db) : ∀ d, d + 1 = db → open_ E N ((N : Int) - M) d := by
  intro d0 hd0 d hd hv he
  obtain ⟨h1, h2⟩ := h.1 d (by omega)
  rcases Nat.even_or_odd' d with ⟨m, hm | hm⟩
  · have := h1 0 ⟨by omega, by omega, by omega⟩ (by rw [show (0 : Int) - ((N : Int) - M) = -((N : Int) - M) by omega]; exact hv)
    rw [show (0 : Int) - ((N : Int) - M) = -((N : Int) - M) by omega, he] at this
    have := (flab_bound (E := E) (N := N) (M := M) (D := d) (k := 0) ⟨by omega, by omega, by omega⟩).1
    omega
  · have := h2 0 ⟨by omega, by omega, by omega⟩ (by rw [show (0 : Int) - ((N : Int) - M) = -((N : Int) - M) by omega]; exact hv)
    rw [show (0 : Int) - ((N : Int) - M) = -((N : Int) - M) by omega, he] at this
    have := (flab_bound (E := E) (N := N) (M := M) (D := d + 1) (k := 0) ⟨by omega, by omega, by omega⟩).1
    omega
where Nat.even_or_odd' (n : Nat) : ∃ m, n = 2 * m ∨ n = 2 * m + 1 := ⟨n / 2, by omega⟩
theorem open_fwd {df db : Nat} (h : Before2 E N M df db) : ∀ d, d + 1 = df → open_ (mir E N M) N ((N : Int) - M) d := by
  intro d0 hd0 d hd hv he
  have hv2 : valid d ((N : Int) - M) := by have := valid_neg hv; rwa [Int.neg_neg] at this
  have hf : flab E N M d ((N : Int) - M) = N := by unfold flab; rw [he]; omega
  have key : ∀ b, d % 2 = b % 2 ∨ True → valid b 0 → Apart2 E N M d b → False := by
    intro b _ hb ha
    have h3 := ha ((N : Int) - M) hv2 (by rw [show (N : Int) - M - ((N : Int) - M) = 0 by omega]; exact hb)
    rw [hf, show (N : Int) - M - ((N : Int) - M) = 0 by omega] at h3
    have := (lab_bound (E := E) (N := N) (M := M) (dl := (N : Int) - M) rfl b 0 hb).1
    omega
  have hdd : Apart2 E N M d d ∧ (∀ e, e + 1 = d → Apart2 E N M d e) := by
    refine ⟨?_, fun e he => ?_⟩
    · rcases h.2 with e | ⟨e, ha⟩
      · exact (h.1 d (by omega)).1
      · by_cases c : d = db
        · rw [c]; exact ha
        · exact (h.1 d (by omega)).1
    · subst he
      exact (h.1 e (by rcases h.2 with e2 | ⟨e2, _⟩ <;> omega)).2
  by_cases hp : d % 2 = 0
  · exact key d (Or.inr trivial) ⟨by omega, by omega, by omega⟩ hdd.1
  · exact key (d - 1) (Or.inr trivial) ⟨by omega, by omega, by omega⟩ (hdd.2 (d - 1) (by omega))
def Spec (E : Nat → Nat → Bool) (N M : Nat) (df db : Nat) (l : Int) : Prop :=
  flab E N M df l = lab E N ((N : Int) - M) db (l - ((N : Int) - M)) ∨ lab E N ((N : Int) - M) db (l - ((N : Int) - M)) = 0 ∨ lab E N ((N : Int) - M) db (l - ((N : Int) - M)) - l = 0 ∨ flab E N M df l - l = M ∨ flab E N M df l = N
structure Met2 (E : Nat → Nat → Bool) (N M : Nat) (df db : Nat) (k : Int) : Prop where
  vf : valid df k
  vb : valid db (k - ((N : Int) - M))
  at_ : Spec E N M df db k ∨ ((∀ l, valid df l → valid db (l - ((N : Int) - M)) → k ≤ l → ¬ Spec E N M df db l) ∧ (∀ l, valid df l → valid db (l - ((N : Int) - M)) → l < k → flab E N M df l < lab E N ((N : Int) - M) db (l - ((N : Int) - M))))
theorem Met2.inside {df db : Nat} {k : Int} (h : Met2 E N M df db k) (hb : Before2 E N M df db) (hn : ¬ Spec E N M df db k) : 0 < lab E N ((N : Int) - M) db (k - ((N : Int) - M)) ∧ 0 < lab E N ((N : Int) - M) db (k - ((N : Int) - M)) - k := by
  obtain ⟨f1, f2, f3⟩ := h.vf
  obtain ⟨b1, b2, b3⟩ := h.vb
  obtain ⟨h1, h2⟩ := h.at_.resolve_left hn
  have hsn := sum_nn (E := E) (N := N) (M := M) (dl := (N : Int) - M) rfl db (open_back hb)
  have hu0 : lab E N ((N : Int) - M) db (k - ((N : Int) - M)) ≠ 0 := fun e => hn (Or.inr (Or.inl e))
  have hv0 : lab E N ((N : Int) - M) db (k - ((N : Int) - M)) - k ≠ 0 := fun e => hn (Or.inr (Or.inr (Or.inl e)))
  constructor
  · rcases Int.lt_or_le (lab E N ((N : Int) - M) db (k - ((N : Int) - M))) 0 with c | c
    · exfalso
      obtain ⟨j, hj, hv, hl⟩ := left_zero (E := E) (N := N) (dl := (N : Int) - M) db _ (k - ((N : Int) - M)) (Nat.le_refl _) h.vb c
      have hs := hsn _ hv
      unfold sm at hs
      rw [hl] at hs
      obtain ⟨v1, v2, v3⟩ := hv
      have e : k + 2 * (j : Int) - ((N : Int) - M) = k - ((N : Int) - M) + 2 * (j : Int) := by omega
      refine h1 (k + 2 * j) ⟨by omega, by omega, by omega⟩ (by rw [e]; exact ⟨v1, v2, v3⟩) (by omega) (Or.inr (Or.inl ?_))
      rw [e]; exact hl
    · omega
  · rcases Int.lt_or_le (lab E N ((N : Int) - M) db (k - ((N : Int) - M)) - k) 0 with c | c
    · exfalso
      obtain ⟨j, hj, hv, hl⟩ := down_zero (E := E) (N := N) (M := M) (dl := (N : Int) - M) rfl db _ (k - ((N : Int) - M)) (Nat.le_refl _) h.vb (by omega)
      have hs := hsn _ hv
      unfold sm at hs
      obtain ⟨v1, v2, v3⟩ := hv
      have e : k - 2 * (j : Int) - ((N : Int) - M) = k - ((N : Int) - M) - 2 * (j : Int) := by omega
      have hvf : valid df (k - 2 * j) := ⟨by omega, by omega, by omega⟩
      have h3 := h2 (k - 2 * j) hvf (by rw [e]; exact ⟨v1, v2, v3⟩) (by omega)
      rw [e] at h3
      have := (flab_bound (E := E) (N := N) (M := M) hvf).2
      omega
    · omega
end Go.Myers
namespace Go.Myers
theorem suf_step {E : Nat → Nat → Bool} {x y i : Nat} (hi : i ≤ suf E x y) (hx : i < x) (hy : i < y) (hE : E (x - 1 - i) (y - 1 - i) = true) : i + 1 ≤ suf E x y := by
  rcases Nat.lt_or_ge i (suf E x y) with h | h
  · omega
  · obtain rfl : i = suf E x y := by omega
    rw [suf_max x y hx hy] at hE; cases hE
theorem suf_stop {E : Nat → Nat → Bool} {x y i : Nat} (hi : i ≤ suf E x y) (h : i = min x y ∨ (E (x - 1 - i) (y - 1 - i) = false)) : suf E x y = i := by
  have hl := suf_le (E := E) x y
  rcases h with h | h
  · omega
  · rcases Nat.lt_or_ge i (suf E x y) with h2 | h2
    · rw [suf_eq x y i h2] at h; cases h
    · omega
theorem suf_congr {E E' : Nat → Nat → Bool} : ∀ x y, (∀ i j, i < x → j < y → E i j = E' i j) → suf E x y = suf E' x y
  | 0, y, _ => by simp [suf]
  | x + 1, 0, _ => by simp [suf]
  | x + 1, y + 1, h => by
    unfold suf
    rw [h x y (by omega) (by omega), suf_congr x y (fun i j hi hj => h i j (by omega) (by omega))]
end Go.Myers
namespace Go.Myers
variable {E : Nat → Nat → Bool} {X Y : Nat}
structure FkM (E : Nat → Nat → Bool) (X Y : Nat) (D0 : Nat) (x0 y0 : Int) (D : Nat) (k x : Int) (l' : List Dg) : Prop where
  back : Back (mir E X Y) X Y ((X : Int) - Y) D (-k) ((X : Int) - x)
  ch : Chain (mir E X Y) X Y l' ((X : Int) - x0) ((Y : Int) - y0)
  ex : endX l' ((X : Int) - x0) ≤ (X : Int) - x
  ey : endY l' ((Y : Int) - y0) ≤ (Y : Int) - (x - k)
  le : D ≤ D0
  x0 : 0 ≤ x0 ∧ x0 ≤ X
  y0 : 0 ≤ y0 ∧ y0 ≤ Y
def FkP (E : Nat → Nat → Bool) (X Y : Nat) (D0 : Nat) (x0 y0 : Int) (D : Nat) (k x : Int) (l : List Dg) : Prop :=
  ∃ l', l = mirD X Y l' ∧ FkM E X Y D0 x0 y0 D k x l'
variable {D0 : Nat} {x0 y0 : Int} {D : Nat} {k x : Int} {l : List Dg}
theorem FkP.start (hv : valid D k) (h0 : flab E X Y D k ≤ X) (h1 : flab E X Y D k - k ≤ Y) : FkP E X Y D (flab E X Y D k) (flab E X Y D k - k) D k (flab E X Y D k) [] := by
  have hb := flab_bound (E := E) (N := X) (M := Y) hv
  have hs := Back.start (E := mir E X Y) (N := X) (M := Y) (dl := (X : Int) - Y) rfl (valid_neg hv) (by unfold flab at h0; omega) (by unfold flab at h1; omega)
  have e : (X : Int) - flab E X Y D k = lab (mir E X Y) X ((X : Int) - Y) D (-k) := by unfold flab; omega
  exact ⟨[], rfl, by rw [e]; exact hs, trivial, Int.le_refl _, Int.le_refl _, Nat.le_refl _, ⟨hb.1, h0⟩, ⟨hb.2, h1⟩⟩
theorem FkP.bounds (h : FkP E X Y D0 x0 y0 D k x l) : valid D k ∧ 0 ≤ x ∧ x ≤ X ∧ 0 ≤ x - k ∧ x - k ≤ Y ∧ D ≤ D0 := by
  obtain ⟨l', _, h⟩ := h
  have v := valid_neg h.back.v
  rw [Int.neg_neg] at v
  have a := h.back.x0
  have b := h.back.y0
  have c := h.back.xN
  have d := h.back.yM
  exact ⟨v, by omega, by omega, by omega, by omega, h.le⟩
theorem FkP.left (h : FkP E X Y D0 x0 y0 (D + 1) k x l) (hv : valid D (k - 1)) (he : x - 1 = flab E X Y D (k - 1)) : FkP E X Y D0 x0 y0 D (k - 1) (x - 1) l := by
  obtain ⟨l', e, h⟩ := h
  have v := valid_neg hv
  rw [show -(k - 1) = -k + 1 by omega] at v
  have e1 : (X : Int) - x + 1 = lab (mir E X Y) X ((X : Int) - Y) D (-k + 1) := by
    unfold flab at he
    rw [show -(k - 1) = -k + 1 by omega] at he
    omega
  have hb := h.back.right rfl v e1
  rw [show -k + 1 = -(k - 1) by omega, show (X : Int) - x + 1 = X - (x - 1) by omega] at hb
  exact ⟨l', e, hb, h.ch, by have := h.ex; omega, by have := h.ey; omega, by have := h.le; omega, h.x0, h.y0⟩
theorem FkP.down (h : FkP E X Y D0 x0 y0 (D + 1) k x l) (hv : valid D (k + 1)) (he : x = flab E X Y D (k + 1)) : FkP E X Y D0 x0 y0 D (k + 1) x l := by
  obtain ⟨l', e, h⟩ := h
  have v := valid_neg hv
  rw [show -(k + 1) = -k - 1 by omega] at v
  have e1 : (X : Int) - x = lab (mir E X Y) X ((X : Int) - Y) D (-k - 1) := by
    unfold flab at he
    rw [show -(k + 1) = -k - 1 by omega] at he
    omega
  have hb := h.back.up rfl v e1
  rw [show -k - 1 = -(k + 1) by omega] at hb
  exact ⟨l', e, hb, h.ch, h.ex, by have := h.ey; omega, by have := h.le; omega, h.x0, h.y0⟩
theorem FkP.diag (h : FkP E X Y D0 x0 y0 D k x l) (hne : ¬ (x = 0 ∧ x - k = 0)) (h1 : ∀ d, D = d + 1 → valid d (k - 1) → x - 1 ≠ flab E X Y d (k - 1)) (h2 : ∀ d, D = d + 1 → valid d (k + 1) → x ≠ flab E X Y d (k + 1)) :
    FkP E X Y D0 x0 y0 D k (x - 1) (prependD l (x - 1) (x - k - 1)) ∧ 0 < x ∧ 0 < x - k := by
  obtain ⟨l', e, h⟩ := h
  have b0 := h.x0
  have b1 := h.y0
  obtain ⟨b, hE, hX, hY⟩ := h.back.diag rfl (by omega) (fun d hd hv he => by
      have v := valid_neg hv
      rw [show -(-k - 1) = k + 1 by omega] at v
      refine h2 d hd v ?_
      unfold flab
      rw [show -(k + 1) = -k - 1 by omega]; omega) (fun d hd hv he => by
      have v := valid_neg hv
      rw [show -(-k + 1) = k - 1 by omega] at v
      refine h1 d hd v ?_
      unfold flab
      rw [show -(k - 1) = -k + 1 by omega]; omega)
  have ex := h.ex
  have ey := h.ey
  have hen := end_append l' ((X : Int) - x) ((X : Int) - x - (-k + ((X : Int) - Y))) ((X : Int) - x0) ((Y : Int) - y0)
  refine ⟨⟨appendD l' ((X : Int) - x) ((X : Int) - x - (-k + ((X : Int) - Y))), ?_, ?_, ?_, ?_, ?_, h.le, h.x0, h.y0⟩, by omega, by omega⟩
  · rw [mirD_append, e]
    congr 1 <;> omega
  · rwa [show (X : Int) - (x - 1) = X - x + 1 by omega]
  · exact chain_append l' _ _ _ _ (by omega) (by omega) h.ch ex (by omega) hX hY hE
  · rw [hen.1]; omega
  · rw [hen.2]; omega
theorem FkP.small (h : FkP E X Y D0 x0 y0 D k x l) (hX : X < 1099511627776) (hY : Y < 1099511627776) : l.length ≤ X ∧ ∀ d ∈ l, 0 ≤ d.x ∧ d.x ≤ 1099511627776 ∧ 0 ≤ d.y ∧ d.y ≤ 1099511627776 ∧ 0 ≤ d.len ∧ d.len ≤ 1099511627776 := by
  obtain ⟨l', rfl, h⟩ := h
  have b0 := h.x0
  have b1 := h.y0
  have h1 := chain_in l' _ _ (by omega) (by omega) h.ch
  have h2 := chain_end l' _ _ h.ch
  have h3 := h.ex
  have h4 := h.back.xN
  have hc := chain_mir l' _ _ x0.toNat y0.toNat (by omega) (by omega) (by omega) (by omega) h.ch
  refine ⟨by rw [mirD_length]; omega, fun d hd => ?_⟩
  have := chain_in (mirD X Y l') 0 0 (by omega) (by omega) hc d hd
  omega
theorem FkP.fin (h : FkP E X Y D0 x0 y0 D k x l) : Chain E x0.toNat y0.toNat l 0 0 := by
  obtain ⟨l', rfl, h⟩ := h
  have b0 := h.x0
  have b1 := h.y0
  exact chain_mir l' _ _ x0.toNat y0.toNat (by omega) (by omega) (by omega) (by omega) h.ch
end Go.Myers
namespace Go.Myers
variable {E : Nat → Nat → Bool} {N M : Nat}
def Good (E : Nat → Nat → Bool) (N M : Nat) (d : Dg) : Prop := 0 ≤ d.x ∧ 0 ≤ d.y ∧ 0 < d.len ∧ d.x + d.len ≤ N ∧ d.y + d.len ≤ M ∧ ∀ i : Nat, (i : Int) < d.len → E (d.x.toNat + i) (d.y.toNat + i) = true
def Ahead (a b : Dg) : Prop := a.x + a.len ≤ b.x ∧ a.y + a.len ≤ b.y
def Sep (a b : Dg) : Prop := Ahead a b ∨ Ahead b a
theorem Sep.symm {a b : Dg} (h : Sep a b) : Sep b a := h.elim Or.inr Or.inl
theorem chain_of : ∀ (l : List Dg) (px py : Int), (∀ d ∈ l, Good E N M d ∧ px ≤ d.x ∧ py ≤ d.y) → l.Pairwise Sep → l.Pairwise (fun a b => a.x ≤ b.x) → Chain E N M l px py
  | [], _, _, _, _, _ => trivial
  | d :: t, px, py, hg, hs, hx => by
    obtain ⟨⟨g1, g2, g3, g4, g5, g6⟩, p1, p2⟩ := hg d (by simp)
    obtain ⟨s1, s2⟩ := List.pairwise_cons.1 hs
    obtain ⟨x1, x2⟩ := List.pairwise_cons.1 hx
    refine ⟨p1, p2, g3, g4, g5, g6, chain_of t _ _ (fun e he => ?_) s2 x2⟩
    have ge := (hg e (by simp [he])).1
    have hle := x1 e he
    rcases s1 e he with h | h
    · exact ⟨ge, h.1, h.2⟩
    · exfalso
      have := h.1
      have := ge.2.2.1
      omega
theorem chain_good : ∀ (l : List Dg) (px py : Int), 0 ≤ px → 0 ≤ py → Chain E N M l px py → ∀ d ∈ l, Good E N M d ∧ px ≤ d.x ∧ py ≤ d.y
  | [], _, _, _, _, _ => by simp
  | d :: t, px, py, h0, h1, ⟨c1, c2, c3, c4, c5, c6, c7⟩ => by
    intro e he
    rcases List.mem_cons.1 he with rfl | he
    · exact ⟨⟨by omega, by omega, c3, c4, c5, c6⟩, c1, c2⟩
    · have := chain_good t _ _ (by omega) (by omega) c7 e he
      exact ⟨this.1, by omega, by omega⟩
theorem chain_sep : ∀ (l : List Dg) (px py : Int), 0 ≤ px → 0 ≤ py → Chain E N M l px py → l.Pairwise Sep
  | [], _, _, _, _, _ => List.Pairwise.nil
  | d :: t, px, py, h0, h1, ⟨c1, c2, c3, c4, c5, c6, c7⟩ => by
    refine List.pairwise_cons.2 ⟨fun e he => ?_, chain_sep t _ _ (by omega) (by omega) c7⟩
    have := chain_good t _ _ (by omega) (by omega) c7 e he
    exact Or.inl ⟨this.2.1, this.2.2⟩
theorem chain_perm {l l' : List Dg} (h : Chain E N M l 0 0) (hp : l.Perm l') (hx : l'.Pairwise (fun a b => a.x ≤ b.x)) : Chain E N M l' 0 0 :=
  chain_of l' 0 0 (fun d hd => chain_good l 0 0 (Int.le_refl _) (Int.le_refl _) h d (hp.mem_iff.2 hd)) ((List.Perm.pairwise_iff (fun h => Sep.symm h) hp).1 (chain_sep l 0 0 (Int.le_refl _) (Int.le_refl _) h)) hx
def Sub (q p : Dg) : Prop := ∃ t : Int, 0 ≤ t ∧ q.x = p.x + t ∧ q.y = p.y + t ∧ t + q.len ≤ p.len ∧ 0 < q.len
theorem Sub.refl {p : Dg} (h : 0 < p.len) : Sub p p := ⟨0, by omega, by omega, by omega, by omega, h⟩
theorem Sub.trans {r q p : Dg} (h1 : Sub r q) (h2 : Sub q p) : Sub r p := by
  obtain ⟨t, a1, a2, a3, a4, a5⟩ := h1
  obtain ⟨u, b1, b2, b3, b4, b5⟩ := h2
  exact ⟨u + t, by omega, by omega, by omega, by omega, a5⟩
theorem Sub.good {q p : Dg} (h : Sub q p) (hg : Good E N M p) : Good E N M q := by
  obtain ⟨t, a1, a2, a3, a4, a5⟩ := h
  obtain ⟨g1, g2, g3, g4, g5, g6⟩ := hg
  refine ⟨by omega, by omega, a5, by omega, by omega, fun i hi => ?_⟩
  have := g6 (t.toNat + i) (by omega)
  rw [show p.x.toNat + (t.toNat + i) = q.x.toNat + i by omega, show p.y.toNat + (t.toNat + i) = q.y.toNat + i by omega] at this
  exact this
theorem Sub.sep {q p e : Dg} (h : Sub q p) (hs : Sep p e) : Sep q e := by
  obtain ⟨t, a1, a2, a3, a4, a5⟩ := h
  rcases hs with ⟨h1, h2⟩ | ⟨h1, h2⟩
  · exact Or.inl ⟨by omega, by omega⟩
  · exact Or.inr ⟨by omega, by omega⟩
end Go.Myers
