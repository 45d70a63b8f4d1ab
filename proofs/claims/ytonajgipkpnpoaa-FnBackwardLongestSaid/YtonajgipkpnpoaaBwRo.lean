/- The plain law of Road, TooLong, OfBytes. -/
import Derived.Test.YtonajgipkpnpoaaBwKp
namespace Go.Proofs.Ytonajgipkpnpoaa.QFnBackwardLead
open Go.RowKit Go.Proofs.YtonajgipkpnpoaaW.PrintWords Go.Proofs.YtonajgipkpnpoaaW.PrintLast Go.Proofs.YtonajgipkpnpoaaW.PrintMore Go.Myers Go.Proofs.Ytonajgipkpnpoaa.Gr

section
variable {x y : List Int} {E : Nat → Nat → Bool}

theorem kept_ev (hx : x.length ≤ 1000000) (hy : y.length ≤ 1000000) (hE : ∀ i j : Nat, i < x.length → j < y.length → E i j = true → rd x i = rd y j) (l : List Dg) (hc : Chain E x.length y.length l 0 0) :
    ∃ K, ∀ k, K ≤ k → spec_Kept.f k x y ((dif x.length y.length l 0 0).map toI) = some (total l, true) := by
  have h1 := chain_end l 0 0 hc
  have h2 := chain_le l 0 0 (by omega) (by omega) hc
  have h3 := dif_length (x.length : Int) (y.length : Int) l 0 0
  obtain ⟨K, h⟩ := kp_loop (D := (dif x.length y.length l 0 0).map toI ++ [⟨x.length, x.length, y.length, y.length⟩]) hx hy (by simp; omega) hE l 0 0 0 0 0 0 0 hc (by omega) (by omega) (by omega) (by omega) (by omega) (by omega) (by omega) (by omega) (fun i hi => by omega) (by simp)
  refine ⟨K, fun k hk => ?_⟩
  have := h k hk
  unfold spec_Kept.f
  simp only [Option.bind_some, List.nil_append, List.length_nil]
  have c1 : 0 + ((dif x.length y.length l 0 0).map toI).length < 4398046511104 := by rw [List.length_map]; omega
  have c2 : ((dif x.length y.length l 0 0).map toI).length < 4398046511104 := by rw [List.length_map]; omega
  rw [if_pos c1, if_pos c2]
  simpa using this

theorem ro_inner (hx : x.length ≤ 1000000) (hy : y.length ≤ 1000000) (x9 : Int) (L : List S56) (n j X Y len : Int) (K : Nat) (h0 : 0 ≤ X) (h1 : 0 ≤ Y) (hl : X + len ≤ x.length) (hl2 : Y + len ≤ y.length) (hE : ∀ i : Nat, (i : Int) < len → rd x (X + i) = rd y (Y + i))
    (hr : ∀ k, K ≤ k → spec_Road.l0 k x y (wrap64 (x9 - len)) true (wrap64 (X + len)) (wrap64 (Y + len)) L n (wrap64 (j + 1)) = some true) :
    ∀ (m i : Nat), len - i = m → ∀ k, K + m < k → spec_Road.l1 k x y x9 true L n j len (i : Int) X Y len = some true := by
  intro m
  induction m with
  | zero =>
    intro i hm k hk
    obtain ⟨k, rfl⟩ : ∃ m, k = m + 1 := ⟨k - 1, by omega⟩
    have hlt : ¬ (i : Int) < len := by omega
    rw [spec_Road.l1, if_neg hlt]
    exact hr k (by omega)
  | succ m ih =>
    intro i hm k hk
    obtain ⟨k, rfl⟩ : ∃ m, k = m + 1 := ⟨k - 1, by omega⟩
    have hlt : (i : Int) < len := by omega
    have c1 : 0 ≤ X + (i : Int) := by omega
    have c2 : X + (i : Int) < (x.length : Int) := by omega
    have c3 : 0 ≤ Y + (i : Int) := by omega
    have c4 : Y + (i : Int) < (y.length : Int) := by omega
    have c5 := hE i hlt
    have hi := ih (i + 1) (by omega) k (by omega)
    have e1 : wrap64 (X + (i : Int)) = X + i := w64 (by omega) (by omega)
    have e2 : wrap64 (Y + (i : Int)) = Y + i := w64 (by omega) (by omega)
    have e3 : wrap64 ((i : Int) + 1) = ((i + 1 : Nat) : Int) := by rw [w64 (by omega) (by omega)]; omega
    rw [spec_Road.l1, if_pos hlt, e1, e2, e3, if_pos c1, if_pos c2, if_pos c3, if_pos c4, if_pos c5]
    exact hi

theorem rdQ {l t : List Dg} {d : Dg} {i : Nat} (h : l.drop i = d :: t) : i < l.length ∧ rd_T56 ((l.map toP).map toQ) (i : Int) = ⟨d.x, d.y, d.len⟩ ∧ l.drop (i + 1) = t := by
  obtain ⟨h1, h2, h3⟩ := drop_cons h
  refine ⟨h1, ?_, h3⟩
  unfold rd_T56
  rw [Int.toNat_natCast, List.getD_eq_getElem?_getD, List.getElem?_map, List.getElem?_map, h2]
  rfl

theorem ro_loop (hx : x.length ≤ 1000000) (hy : y.length ≤ 1000000) (hE : ∀ i j : Nat, i < x.length → j < y.length → E i j = true → rd x i = rd y j) (l : List Dg) (hll : l.length ≤ 1000000) :
    ∀ (t : List Dg) (i : Nat) (at_ tt : Int), l.drop i = t → i ≤ l.length → 0 ≤ at_ → 0 ≤ tt → Chain E x.length y.length t at_ tt → total t ≤ 1000000 →
    ∃ K, ∀ k, K ≤ k → spec_Road.l0 k x y (total t) true at_ tt ((l.map toP).map toQ) (((l.map toP).map toQ).length : Int) (i : Int) = some true
  | [], i, at_, tt, hd, hi, _, _, _, _ => by
    have hi2 : l.length ≤ i := by
      rcases Nat.lt_or_ge i l.length with h | h
      · rw [List.drop_eq_getElem_cons h] at hd; cases hd
      · exact h
    refine ⟨1, fun k hk => ?_⟩
    obtain ⟨k, rfl⟩ : ∃ m, k = m + 1 := ⟨k - 1, by omega⟩
    have hlen : ¬ (i : Int) < (((l.map toP).map toQ).length : Int) := by rw [List.length_map, List.length_map]; omega
    rw [spec_Road.l0, if_neg hlen, if_pos rfl]
    rfl
  | d :: t, i, at_, tt, hd, hi, h0, h1, ⟨c1, c2, c3, c4, c5, ce, c6⟩, htot => by
    obtain ⟨hlt, hrd, hdr⟩ := rdQ hd
    have ht0 : 0 ≤ total t := by have := chain_end t _ _ c6; omega
    simp only [total] at htot
    obtain ⟨K, ih⟩ := ro_loop hx hy hE l hll t (i + 1) (d.x + d.len) (d.y + d.len) hdr (by omega) (by omega) (by omega) c6 (by omega)
    obtain ⟨m, hm⟩ : ∃ m : Nat, d.len = m := ⟨d.len.toNat, by omega⟩
    refine ⟨K + m + 4, fun k hk => ?_⟩
    obtain ⟨k, rfl⟩ : ∃ m, k = m + 2 := ⟨k - 2, by omega⟩
    have hce : ∀ i : Nat, (i : Int) < d.len → rd x (d.x + i) = rd y (d.y + i) := fun i hi => by
      have := hE (d.x.toNat + i) (d.y.toNat + i) (by omega) (by omega) (ce i hi)
      rwa [show ((d.x.toNat + i : Nat) : Int) = d.x + i by omega, show ((d.y.toNat + i : Nat) : Int) = d.y + i by omega] at this
    have hin := ro_inner hx hy (total (d :: t)) ((l.map toP).map toQ) (((l.map toP).map toQ).length : Int) (i : Int) d.x d.y d.len K (by omega) (by omega) c4 c5 hce
      (by
        have e1 : wrap64 (total (d :: t) - d.len) = total t := by
          rw [show total (d :: t) - d.len = total t by simp only [total]; omega]; exact w64 (by omega) (by omega)
        have e2 : wrap64 (d.x + d.len) = d.x + d.len := w64 (by omega) (by omega)
        have e3 : wrap64 (d.y + d.len) = d.y + d.len := w64 (by omega) (by omega)
        have e4 : wrap64 ((i : Int) + 1) = ((i + 1 : Nat) : Int) := by rw [w64 (by omega) (by omega)]; omega
        rw [e1, e2, e3, e4]; exact ih) m 0 (by omega) k (by omega)
    have q1 : (i : Int) < (((l.map toP).map toQ).length : Int) := by rw [List.length_map, List.length_map]; omega
    have q2 : (0 : Int) ≤ (i : Int) := by omega
    have q3 : ¬ d.x < at_ := by omega
    have q4 : ¬ d.y < tt := by omega
    have q5 : ¬ d.len < 0 := by omega
    have q6 : ¬ d.x + d.len > (x.length : Int) := by omega
    have q7 : ¬ d.y + d.len > (y.length : Int) := by omega
    have e2 : wrap64 (d.x + d.len) = d.x + d.len := w64 (by omega) (by omega)
    have e3 : wrap64 (d.y + d.len) = d.y + d.len := w64 (by omega) (by omega)
    rw [spec_Road.l0, if_pos q1, if_pos q2, if_pos q1, hrd]
    simp only []
    rw [if_neg q3, if_neg q4, if_neg q5, e2, if_neg q6, e3, decide_eq_false q7, spec_Road.j1]
    simp only [Bool.false_eq_true, if_false]
    exact hin

theorem road_ev (hx : x.length ≤ 1000000) (hy : y.length ≤ 1000000) (hE : ∀ i j : Nat, i < x.length → j < y.length → E i j = true → rd x i = rd y j) (l : List Dg) (hc : Chain E x.length y.length l 0 0) :
    ∃ k, spec_Road.f k x y ((dif x.length y.length l 0 0).map toI) ((l.map toP).map toQ) = some true := by
  have h1 := chain_end l 0 0 hc
  have h2 := chain_le l 0 0 (by omega) (by omega) hc
  obtain ⟨K1, k1⟩ := kept_ev hx hy hE l hc
  obtain ⟨K2, k2⟩ := ro_loop hx hy hE l (by omega) l 0 0 0 rfl (by omega) (by omega) (by omega) hc (by omega)
  refine ⟨max K1 K2, ?_⟩
  unfold spec_Road.f
  rw [k1 _ (Nat.le_max_left _ _)]
  simp only [Option.bind_some]
  exact k2 _ (Nat.le_max_right _ _)
end

theorem long_ev (a b : Nat) : ∃ r, spec_TooLong.f 3 [(a : Int), (b : Int)] = some r ∧ (r = false → a + b ≤ 1000000) := by
  have e0 : wrap64 (1000000 - 0) = 1000000 := w64 (by omega) (by omega)
  have e1 : wrap64 ((0 : Int) + 1) = 1 := w64 (by omega) (by omega)
  have e2 : wrap64 ((1 : Int) + 1) = 2 := w64 (by omega) (by omega)
  by_cases h : (a : Int) > 1000000
  · refine ⟨true, ?_, fun h => by cases h⟩
    unfold spec_TooLong.f
    rw [spec_TooLong.l0, if_pos (by simp), if_pos (by simp), if_pos (by simp), e0]
    simp only [rd, Int.toNat_zero, List.getD_cons_zero]
    rw [if_pos h]
  · have e3 : wrap64 (0 + (a : Int)) = a := by rw [Int.zero_add]; exact w64 (by omega) (by omega)
    have e4 : wrap64 (1000000 - (a : Int)) = 1000000 - a := w64 (by omega) (by omega)
    have hstep : ∀ k, spec_TooLong.l0 (k + 1) 0 [(a : Int), (b : Int)] 2 0 = spec_TooLong.l0 k a [(a : Int), (b : Int)] 2 1 := fun k => by
      rw [spec_TooLong.l0, if_pos (by simp), if_pos (by simp), if_pos (by simp), e0]
      simp only [rd, Int.toNat_zero, List.getD_cons_zero]
      rw [if_neg h, e3, e1]
    by_cases h2 : (b : Int) > 1000000 - a
    · refine ⟨true, ?_, fun h => by cases h⟩
      unfold spec_TooLong.f
      show spec_TooLong.l0 3 0 _ 2 0 = _
      rw [hstep, spec_TooLong.l0, if_pos (by simp), if_pos (by simp), if_pos (by simp), e4]
      simp only [rd, Int.toNat_one, List.getD_cons_succ, List.getD_cons_zero]
      rw [if_pos h2]
    · refine ⟨false, ?_, fun _ => by omega⟩
      have e5 : wrap64 ((a : Int) + b) = a + b := w64 (by omega) (by omega)
      unfold spec_TooLong.f
      show spec_TooLong.l0 3 0 _ 2 0 = _
      rw [hstep, spec_TooLong.l0, if_pos (by simp), if_pos (by simp), if_pos (by simp), e4]
      simp only [rd, Int.toNat_one, List.getD_cons_succ, List.getD_cons_zero]
      rw [if_neg h2, e2, spec_TooLong.l0, if_neg (by simp)]

theorem ob_loop (l : List Int) (hl : l.length ≤ 1000000) : ∀ (n i : Nat) (acc : List Int), l.length - i = n → i ≤ l.length → acc.length = i → ∀ k, n < k → spec_OfBytes.l0 k acc l (l.length : Int) (i : Int) = some (acc ++ (l.drop i).map wrap64) := by
  intro n
  induction n with
  | zero =>
    intro i acc hn hi ha k hk
    obtain ⟨k, rfl⟩ : ∃ m, k = m + 1 := ⟨k - 1, by omega⟩
    obtain rfl : i = l.length := by omega
    rw [spec_OfBytes.l0, if_neg (by omega), List.drop_length]
    simp
  | succ n ih =>
    intro i acc hn hi ha k hk
    obtain ⟨k, rfl⟩ : ∃ m, k = m + 1 := ⟨k - 1, by omega⟩
    have hlt : i < l.length := by omega
    have hacc : acc.length < 17592186044416 := by omega
    have e3 : wrap64 ((i : Int) + 1) = ((i + 1 : Nat) : Int) := by rw [w64 (by omega) (by omega)]; omega
    rw [spec_OfBytes.l0, if_pos (by omega), if_pos (by omega), if_pos (by omega), if_pos hacc, e3]
    clear e3
    rw [ih (i + 1) _ (by omega) (by omega) (by simp; omega) k (by omega), List.drop_eq_getElem_cons hlt, List.map_cons, List.append_assoc]
    congr 2
    unfold rd
    rw [Int.toNat_natCast, List.getD_eq_getElem?_getD, List.getElem?_eq_getElem hlt]
    rfl

theorem ob_ev (l : List Int) (hl : l.length ≤ 1000000) : spec_OfBytes.f (l.length + 1) l = some (l.map wrap64) := by
  have := ob_loop l hl l.length 0 [] rfl (by omega) rfl (l.length + 1) (by omega)
  unfold spec_OfBytes.f
  simpa using this
end Go.Proofs.Ytonajgipkpnpoaa.QFnBackwardLead
