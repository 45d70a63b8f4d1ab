/- The plain law of Kept: the differences between common pieces lead from one sequence to the other. -/
import Derived.Test.YtonajgipkpnpoaaBwIm
namespace Go.Proofs.Ytonajgipkpnpoaa.QFnBackwardLead
open Go.RowKit Go.Proofs.YtonajgipkpnpoaaW.PrintWords Go.Proofs.YtonajgipkpnpoaaW.PrintLast Go.Proofs.YtonajgipkpnpoaaW.PrintMore Go.Myers Go.Proofs.Ytonajgipkpnpoaa.Gr

section
variable {x y : List Int} {D : List S58}

/-- the stretch of equal elements -/
theorem kp_inner (hx : x.length ≤ 1000000) (hy : y.length ≤ 1000000) (L j s e rs re : Int) (r : Int × Bool) (K : Nat) : ∀ (n : Nat) (kept at_ tt : Int), 0 ≤ kept → kept + n ≤ 10000000 → 0 ≤ at_ → 0 ≤ tt → s - at_ = n → at_ + n ≤ x.length → tt + n ≤ y.length →
    (∀ i : Nat, i < n → rd x (at_ + i) = rd y (tt + i)) → (∀ k, K ≤ k → spec_Kept.l0 k x y (kept + n) e re D L (wrap64 (j + 1)) = some r) →
    ∀ k, K + n < k → spec_Kept.l1 k x y kept at_ tt D L j s e rs re = some r := by
  intro n
  induction n with
  | zero =>
    intro kept at_ tt hk0 hk1 ha ht hs h1 h2 hE hr k hk
    obtain ⟨k, rfl⟩ : ∃ m, k = m + 1 := ⟨k - 1, by omega⟩
    have hlt : ¬ at_ < s := by omega
    have hr2 := hr k (by omega)
    rw [spec_Kept.l1, if_neg hlt]
    simpa using hr2
  | succ n ih =>
    intro kept at_ tt hk0 hk1 ha ht hs h1 h2 hE hr k hk
    obtain ⟨k, rfl⟩ : ∃ m, k = m + 1 := ⟨k - 1, by omega⟩
    have c1 : at_ < s := by omega
    have c2 : at_ < (x.length : Int) := by omega
    have c3 : tt < (y.length : Int) := by omega
    have c4 : rd x at_ = rd y tt := by have := hE 0 (by omega); simpa using this
    have e1 : wrap64 (kept + 1) = kept + 1 := w64 (by omega) (by omega)
    have e2 : wrap64 (at_ + 1) = at_ + 1 := w64 (by omega) (by omega)
    have e3 : wrap64 (tt + 1) = tt + 1 := w64 (by omega) (by omega)
    rw [spec_Kept.l1, if_pos c1, if_pos ha, if_pos c2, if_pos ht, if_pos c3, if_pos c4, e1, e2, e3]
    clear e1 e2 e3
    refine ih (kept + 1) (at_ + 1) (tt + 1) (by omega) (by omega) (by omega) (by omega) (by omega) (by omega) (by omega) (fun i hi => ?_) (fun k hk => ?_) k (by omega)
    · have := hE (i + 1) (by omega)
      rw [show at_ + 1 + (i : Int) = at_ + ((i + 1 : Nat) : Int) by omega, show tt + 1 + (i : Int) = tt + ((i + 1 : Nat) : Int) by omega]
      exact this
    · have := hr k hk
      rw [show kept + 1 + (n : Int) = kept + ((n + 1 : Nat) : Int) by omega]
      exact this

theorem kp_step (hx : x.length ≤ 1000000) (hy : y.length ≤ 1000000) (hD : D.length ≤ 4000000) (j : Nat) (d : S58) (hj : j < D.length) (hd : rd_T58 D (j : Int) = d) (r : Int × Bool) (K : Nat) (kept at_ tt : Int) (n : Nat) (hk0 : 0 ≤ kept) (hk1 : kept + n ≤ 10000000) (ha : 0 ≤ at_) (ht : 0 ≤ tt)
    (hs : d.f0 - at_ = n) (hs2 : d.f2 - tt = n) (h1 : d.f0 ≤ d.f1) (h2 : d.f1 ≤ x.length) (h3 : d.f2 ≤ d.f3) (h4 : d.f3 ≤ y.length) (hE : ∀ i : Nat, i < n → rd x (at_ + i) = rd y (tt + i))
    (hr : ∀ k, K ≤ k → spec_Kept.l0 k x y (kept + n) d.f1 d.f3 D (D.length : Int) ((j + 1 : Nat) : Int) = some r) :
    ∀ k, K + n + 3 ≤ k → spec_Kept.l0 k x y kept at_ tt D (D.length : Int) (j : Int) = some r := by
  intro k hk
  obtain ⟨k, rfl⟩ : ∃ m, k = m + 2 := ⟨k - 2, by omega⟩
  have c1 : ¬ d.f0 < at_ := by omega
  have c2 : ¬ d.f1 < d.f0 := by omega
  have c3 : ¬ d.f1 > (x.length : Int) := by omega
  have c4 : ¬ d.f2 < tt := by omega
  have c5 : ¬ d.f3 < d.f2 := by omega
  have c6 : ¬ d.f3 > (y.length : Int) := by omega
  have c7 : (j : Int) < (D.length : Int) := by omega
  have c8 : (0 : Int) ≤ (j : Int) := by omega
  have hin := kp_inner (D := D) hx hy (D.length : Int) (j : Int) d.f0 d.f1 d.f2 d.f3 r K n kept at_ tt hk0 hk1 ha ht hs (by omega) (by omega) hE
    (by
      have e3 : wrap64 ((j : Int) + 1) = ((j + 1 : Nat) : Int) := by rw [w64 (by omega) (by omega)]; omega
      rw [e3]; exact hr) k (by omega)
  have e1 : wrap64 (d.f0 - at_) = n := by rw [hs]; exact w64 (by omega) (by omega)
  have e2 : wrap64 (d.f2 - tt) = n := by rw [hs2]; exact w64 (by omega) (by omega)
  rw [spec_Kept.l0, if_pos c7, if_pos c8, if_pos c7, hd, if_neg c1, if_neg c2, if_neg c3, if_neg c4, if_neg c5, if_neg c6, e1, e2, spec_Kept.j1]
  simp only [bne_self_eq_false, Bool.false_eq_true, if_false]
  exact hin

theorem kp_end (kept at_ tt : Int) (j : Nat) (hj : D.length ≤ j) : ∀ k, 1 ≤ k → spec_Kept.l0 k x y kept at_ tt D (D.length : Int) (j : Int) = some (kept, true) := by
  intro k hk
  obtain ⟨k, rfl⟩ : ∃ m, k = m + 1 := ⟨k - 1, by omega⟩
  rw [spec_Kept.l0, if_neg (by omega)]

theorem rdD {d : S58} {t : List S58} {j : Nat} (h : D.drop j = d :: t) : j < D.length ∧ rd_T58 D (j : Int) = d ∧ D.drop (j + 1) = t := by
  have hlt : j < D.length := by
    rcases Nat.lt_or_ge j D.length with h1 | h1
    · exact h1
    · rw [List.drop_eq_nil_of_le h1] at h; cases h
  rw [List.drop_eq_getElem_cons hlt] at h
  injection h with h1 h2
  refine ⟨hlt, ?_, h2⟩
  unfold rd_T58
  rw [Int.toNat_natCast, List.getD_eq_getElem?_getD, List.getElem?_eq_getElem hlt]
  exact h1

theorem kp_loop {E : Nat → Nat → Bool} (hx : x.length ≤ 1000000) (hy : y.length ≤ 1000000) (hD : D.length ≤ 4000000) (hE : ∀ i j : Nat, i < x.length → j < y.length → E i j = true → rd x i = rd y j) :
    ∀ (t : List Dg) (pa pb kept at_ tt : Int) (n j : Nat), Chain E x.length y.length t pa pb → pa ≤ x.length → pb ≤ y.length → 0 ≤ at_ → 0 ≤ tt → pa - at_ = n → pb - tt = n → 0 ≤ kept → kept + n + total t ≤ 10000000 →
    (∀ i : Nat, i < n → rd x (at_ + i) = rd y (tt + i)) →
    D.drop j = (dif x.length y.length t pa pb).map toI ++ [⟨x.length, x.length, y.length, y.length⟩] →
    ∃ K, ∀ k, K ≤ k → spec_Kept.l0 k x y kept at_ tt D (D.length : Int) (j : Int) = some (kept + n + total t, true)
  | [], pa, pb, kept, at_, tt, n, j, hc, hpa, hpb, ha, ht, h1, h2, hk, hk2, hrun, hdr => by
    simp only [total] at hk2 ⊢
    by_cases hdif : pa < (x.length : Int) ∨ pb < (y.length : Int)
    · rw [dif, if_pos hdif] at hdr
      obtain ⟨hj, hd, hdr2⟩ := rdD hdr
      obtain ⟨hj2, hd2, hdr3⟩ := rdD hdr2
      have hlen : D.length = j + 2 := by
        have := congrArg List.length hdr3
        rw [List.length_drop] at this
        simp at this; omega
      have s2 := kp_step hx hy hD (j + 1) _ hj2 hd2 (kept + n, true) 1 (kept + n) x.length y.length 0 (by omega) (by omega) (by omega) (by omega) (by show (x.length : Int) - x.length = _; omega) (by show (y.length : Int) - y.length = _; omega) (Int.le_refl _) (Int.le_refl _) (Int.le_refl _) (Int.le_refl _) (fun i hi => by omega)
        (fun k hk => by
          have := kp_end (x := x) (y := y) (D := D) (kept + n + (0 : Nat)) x.length y.length (j + 1 + 1) (by omega) k hk
          simpa using this)
      have s1 := kp_step hx hy hD j _ hj hd (kept + n, true) _ kept at_ tt n hk (by omega) ha ht h1 h2 hpa (Int.le_refl _) hpb (Int.le_refl _) hrun (fun k hk => s2 k hk)
      exact ⟨_, fun k hk => by rw [Int.add_zero]; exact s1 k hk⟩
    · rw [dif, if_neg hdif] at hdr
      obtain ⟨hj2, hd2, hdr3⟩ := rdD hdr
      have hlen : D.length = j + 1 := by
        have := congrArg List.length hdr3
        rw [List.length_drop] at this
        simp at this; omega
      have s2 := kp_step hx hy hD j _ hj2 hd2 (kept + n, true) 1 kept at_ tt n hk (by omega) ha ht (by show (x.length : Int) - at_ = _; omega) (by show (y.length : Int) - tt = _; omega) (Int.le_refl _) (Int.le_refl _) (Int.le_refl _) (Int.le_refl _) hrun
        (fun k hk => kp_end (x := x) (y := y) (D := D) (kept + n) x.length y.length (j + 1) (by omega) k hk)
      exact ⟨_, fun k hk => by rw [Int.add_zero]; exact s2 k hk⟩
  | d :: t, pa, pb, kept, at_, tt, n, j, ⟨c1, c2, c3, c4, c5, ce, c6⟩, hpa, hpb, ha, ht, h1, h2, hk, hk2, hrun, hdr => by
    simp only [total] at hk2 ⊢
    obtain ⟨m, hm⟩ : ∃ m : Nat, d.len = m := ⟨d.len.toNat, by omega⟩
    have hce : ∀ i : Nat, i < m → rd x (d.x + i) = rd y (d.y + i) := fun i hi => by
      have := hE (d.x.toNat + i) (d.y.toNat + i) (by omega) (by omega) (ce i (by omega))
      rwa [show ((d.x.toNat + i : Nat) : Int) = d.x + i by omega, show ((d.y.toNat + i : Nat) : Int) = d.y + i by omega] at this
    by_cases hdif : pa < d.x ∨ pb < d.y
    · rw [dif, if_pos hdif] at hdr
      obtain ⟨hj, hd, hdr2⟩ := rdD hdr
      obtain ⟨K, ih⟩ := kp_loop hx hy hD hE t (d.x + d.len) (d.y + d.len) (kept + n) d.x d.y m (j + 1) c6 c4 c5 (by omega) (by omega) (by omega) (by omega) (by omega) (by omega) hce hdr2
      have ht0 : 0 ≤ total t := by have := chain_end t _ _ c6; omega
      have s1 := kp_step hx hy hD j _ hj hd _ K kept at_ tt n hk (by omega) ha ht h1 h2 (by show pa ≤ d.x; omega) (by show d.x ≤ _; omega) (by show pb ≤ d.y; omega) (by show d.y ≤ _; omega) hrun (fun k hk => ih k hk)
      exact ⟨_, fun k hk => by rw [show kept + n + (d.len + total t) = kept + n + m + total t by omega]; exact s1 k hk⟩
    · rw [dif, if_neg hdif] at hdr
      have ex : pa = d.x := by omega
      have ey : pb = d.y := by omega
      obtain ⟨K, ih⟩ := kp_loop hx hy hD hE t (d.x + d.len) (d.y + d.len) kept at_ tt (n + m) j c6 c4 c5 ha ht (by omega) (by omega) hk (by omega)
        (fun i hi => by
          rcases Nat.lt_or_ge i n with h | h
          · exact hrun i h
          · have := hce (i - n) (by omega)
            rwa [show d.x + ((i - n : Nat) : Int) = at_ + i by omega, show d.y + ((i - n : Nat) : Int) = tt + i by omega] at this) (by simpa using hdr)
      exact ⟨K, fun k hk => by rw [show kept + n + (d.len + total t) = kept + ((n + m : Nat) : Int) + total t by omega]; exact ih k hk⟩
end
end Go.Proofs.Ytonajgipkpnpoaa.QFnBackwardLead
