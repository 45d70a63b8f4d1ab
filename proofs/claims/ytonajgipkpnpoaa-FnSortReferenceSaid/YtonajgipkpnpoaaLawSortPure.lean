/- The plain law of FnSortReference: whatever the edits, what the functions compute is true. -/
import Derived.Test.YtonajgipkpnpoaaQFnSortReferencex
namespace Go.Proofs.Ytonajgipkpnpoaa.QFnSortReference
open Go.RowKit Go.Proofs.YtonajgipkpnpoaaW.PrintWords Go.Proofs.YtonajgipkpnpoaaW.PrintLast Go.Proofs.YtonajgipkpnpoaaW.PrintMore

theorem fits_loop (l : List S28) (hl : l.length < 4398046511104) : ∀ (d i : Nat), l.length - i = d → i ≤ l.length → ∃ b, ∀ k, d < k → laws_zzFits1.l0 k l (l.length : Int) (i : Int) = some b
  | 0, i, hd, hi => ⟨true, fun k hk => by
    obtain ⟨k, rfl⟩ : ∃ m, k = m + 1 := ⟨k - 1, by omega⟩
    simp only [laws_zzFits1.l0]
    rw [if_neg (by omega)]⟩
  | d + 1, i, hd, hi => by
    obtain ⟨b, hb⟩ := fits_loop l hl d (i + 1) (by omega) (by omega)
    by_cases c : ((rd_T28 l (i : Int)).f2.size : Int) > 2147483647
    · refine ⟨false, fun k hk => ?_⟩
      obtain ⟨k, rfl⟩ : ∃ m, k = m + 1 := ⟨k - 1, by omega⟩
      simp only [laws_zzFits1.l0]
      rw [if_pos (by omega), if_pos (by omega), if_pos (by omega), laws_zzFits2.f, if_pos c]
      simp
    · refine ⟨b, fun k hk => ?_⟩
      obtain ⟨k, rfl⟩ : ∃ m, k = m + 1 := ⟨k - 1, by omega⟩
      simp only [laws_zzFits1.l0]
      rw [if_pos (by omega), if_pos (by omega), if_pos (by omega), laws_zzFits2.f, if_neg c]
      simp only [Option.bind_some, if_true]
      rw [wrap_up (i := (i : Int)) (by omega) (by omega), show (i : Int) + 1 = ((i + 1 : Nat) : Int) by omega]
      exact hb k (by omega)

theorem fits_ev (l : List S28) (hl : l.length < 4398046511104) : ∃ b, Ev (fun k => laws_zzFits1.f k l) b := by
  by_cases c : (l.length : Int) > 2147483647
  · exact ⟨false, 0, fun k _ => by show laws_zzFits1.f k l = _; unfold laws_zzFits1.f; rw [if_pos c]⟩
  · obtain ⟨b, hb⟩ := fits_loop l hl l.length 0 (by omega) (by omega)
    exact ⟨b, l.length + 1, fun k hk => by show laws_zzFits1.f k l = _; unfold laws_zzFits1.f; rw [if_neg c]; exact hb k (by omega)⟩

theorem size_loop (l : List S28) (hl : l.length < 4398046511104) : ∀ (d i : Nat) (s : Int), l.length - i = d → i ≤ l.length → ∃ b, ∀ k, d < k → spec_SizeOfEdits.l0 k s l (l.length : Int) (i : Int) = some b
  | 0, i, s, hd, hi => ⟨s, fun k hk => by
    obtain ⟨k, rfl⟩ : ∃ m, k = m + 1 := ⟨k - 1, by omega⟩
    simp only [spec_SizeOfEdits.l0]
    rw [if_neg (by omega)]⟩
  | d + 1, i, s, hd, hi => by
    obtain ⟨b, hb⟩ := size_loop l hl d (i + 1) (wrap64 (s + (wrap64 ((((rd_T28 l (i : Int)).f2).size : Int) + 1)))) (by omega) (by omega)
    by_cases c : (((rd_T28 l (i : Int)).f2).size : Int) ≥ (wrap64 (1000000 - s))
    · refine ⟨1000001, fun k hk => ?_⟩
      obtain ⟨k, rfl⟩ : ∃ m, k = m + 1 := ⟨k - 1, by omega⟩
      simp only [spec_SizeOfEdits.l0]
      rw [if_pos (by omega), if_pos (by omega), if_pos (by omega), if_pos c]
    · refine ⟨b, fun k hk => ?_⟩
      obtain ⟨k, rfl⟩ : ∃ m, k = m + 1 := ⟨k - 1, by omega⟩
      simp only [spec_SizeOfEdits.l0]
      rw [if_pos (by omega), if_pos (by omega), if_pos (by omega), if_neg c, wrap_up (i := (i : Int)) (by omega) (by omega), show (i : Int) + 1 = ((i + 1 : Nat) : Int) by omega]
      exact hb k (by omega)

theorem size_ev (l : List S28) (hl : l.length < 4398046511104) : ∃ b, Ev (fun k => spec_SizeOfEdits.f k l) b := by
  obtain ⟨b, hb⟩ := size_loop l hl l.length 0 0 (by omega) (by omega)
  exact ⟨b, l.length + 1, fun k hk => by unfold spec_SizeOfEdits.f; exact hb k (by omega)⟩

theorem long_ev (t : Int) : ∃ b, Ev (fun k => spec_TooLong.f k [t]) b := by
  by_cases c : t > wrap64 (1000000 - 0)
  · refine ⟨true, 1, fun k hk => ?_⟩
    obtain ⟨k, rfl⟩ : ∃ m, k = m + 1 := ⟨k - 1, by omega⟩
    simp only [spec_TooLong.f, spec_TooLong.l0]
    rw [if_pos (by simp), if_pos (by omega), if_pos (by simp), if_pos (by simpa [rd] using c)]
  · refine ⟨false, 2, fun k hk => ?_⟩
    obtain ⟨k, rfl⟩ : ∃ m, k = m + 2 := ⟨k - 2, by omega⟩
    simp only [spec_TooLong.f, spec_TooLong.l0]
    rw [if_pos (by simp), if_pos (by omega), if_pos (by simp), if_neg (by simpa [rd] using c), if_neg (by simp [wrap64])]

theorem near_loop (l : List S28) (hl : l.length < 4398046511104) : ∀ (d i : Nat), l.length - i = d → i ≤ l.length → ∃ b, (∀ k, d < k → spec_AreNear.l0 k l (l.length : Int) (i : Int) = some b) ∧ (b = true → nearL (l.drop i) = true)
  | 0, i, hd, hi => ⟨true, fun k hk => by
    obtain ⟨k, rfl⟩ : ∃ m, k = m + 1 := ⟨k - 1, by omega⟩
    simp only [spec_AreNear.l0]
    rw [if_neg (by omega)], fun _ => by rw [List.drop_eq_nil_of_le (by omega)]; rfl⟩
  | d + 1, i, hd, hi => by
    obtain ⟨b, hb, hn⟩ := near_loop l hl d (i + 1) (by omega) (by omega)
    have no : ∀ k, d + 1 < k → ∃ m, k = m + 1 := fun k hk => ⟨k - 1, by omega⟩
    by_cases c1 : (rd_T28 l (i : Int)).f0 < (-1099511627776)
    · refine ⟨false, fun k hk => ?_, fun h => by cases h⟩
      obtain ⟨k, rfl⟩ := no k hk
      simp only [spec_AreNear.l0]
      rw [if_pos (by omega), if_pos (by omega), if_pos (by omega), if_pos c1]
    · by_cases c2 : (rd_T28 l (i : Int)).f0 > 1099511627776
      · refine ⟨false, fun k hk => ?_, fun h => by cases h⟩
        obtain ⟨k, rfl⟩ := no k hk
        simp only [spec_AreNear.l0]
        rw [if_pos (by omega), if_pos (by omega), if_pos (by omega), if_neg c1, if_pos c2]
      · by_cases c3 : (rd_T28 l (i : Int)).f1 < (-1099511627776)
        · refine ⟨false, fun k hk => ?_, fun h => by cases h⟩
          obtain ⟨k, rfl⟩ := no k hk
          simp only [spec_AreNear.l0]
          rw [if_pos (by omega), if_pos (by omega), if_pos (by omega), if_neg c1, if_neg c2, if_pos c3]
        · by_cases c4 : (rd_T28 l (i : Int)).f1 > 1099511627776
          · refine ⟨false, fun k hk => ?_, fun h => by cases h⟩
            obtain ⟨k, rfl⟩ := no k hk
            simp only [spec_AreNear.l0]
            rw [if_pos (by omega), if_pos (by omega), if_pos (by omega), if_neg c1, if_neg c2, if_neg c3, if_pos c4]
          · refine ⟨b, fun k hk => ?_, fun h => ?_⟩
            · obtain ⟨k, rfl⟩ := no k hk
              simp only [spec_AreNear.l0]
              rw [if_pos (by omega), if_pos (by omega), if_pos (by omega), if_neg c1, if_neg c2, if_neg c3, if_neg c4, wrap_up (i := (i : Int)) (by omega) (by omega), show (i : Int) + 1 = ((i + 1 : Nat) : Int) by omega]
              exact hb k (by omega)
            · have h1 := hn h
              rw [List.drop_eq_getElem_cons (show i < l.length by omega)]
              have e : rd_T28 l (i : Int) = l[i]'(by omega) := by simp [rd_T28, List.getD, List.getElem?_eq_getElem (show i < l.length by omega)]
              rw [e] at c1 c2
              unfold nearL at h1 ⊢
              rw [List.all_cons, h1, Bool.and_true, Bool.and_eq_true]
              exact ⟨decide_eq_true (by omega), decide_eq_true (by omega)⟩

theorem near_ev (l : List S28) (hl : l.length < 4398046511104) : ∃ b, Ev (fun k => spec_AreNear.f k l) b ∧ (b = true → nearL l = true) := by
  obtain ⟨b, hb, hn⟩ := near_loop l hl l.length 0 (by omega) (by omega)
  exact ⟨b, ⟨l.length + 1, fun k hk => by unfold spec_AreNear.f; exact hb k (by omega)⟩, fun h => by simpa using hn h⟩

theorem same_loop (l : List S28) (hl : l.length < 4398046511104) : ∀ (d i k : Nat), l.length - i = d → i ≤ l.length → d < k → spec_SameEdits.l0 k l l (l.length : Int) (i : Int) = some true
  | 0, i, k, hd, hi, hk => by
    obtain ⟨k, rfl⟩ : ∃ m, k = m + 1 := ⟨k - 1, by omega⟩
    simp only [spec_SameEdits.l0]
    rw [if_neg (by omega)]
  | d + 1, i, k, hd, hi, hk => by
    obtain ⟨k, rfl⟩ : ∃ m, k = m + 1 := ⟨k - 1, by omega⟩
    simp only [spec_SameEdits.l0]
    rw [if_pos (by omega), if_pos (by omega), if_pos (by omega), if_pos (by omega), if_neg (by simp), wrap_up (i := (i : Int)) (by omega) (by omega), show (i : Int) + 1 = ((i + 1 : Nat) : Int) by omega]
    exact same_loop l hl d (i + 1) k (by omega) (by omega) (by omega)

theorem same_ev (l : List S28) (hl : l.length < 4398046511104) : Ev (fun k => spec_SameEdits.f k l l) true :=
  ⟨l.length + 1, fun k hk => by show spec_SameEdits.f k l l = _; unfold spec_SameEdits.f; rw [if_pos rfl]; exact same_loop l hl l.length 0 k (by omega) (by omega) (by omega)⟩

theorem law_pure (l : List S28) (hl : l.length < 4398046511104) : ∃ k, laws_FnSortReference.f k l = some true := by
  apply Ev.rounds
  unfold laws_FnSortReference.f
  obtain ⟨b1, h1⟩ := fits_ev l hl
  refine Ev.bind h1 ?_
  cases b1 with
  | false => exact Ev.now true
  | true =>
    obtain ⟨s, h2⟩ := size_ev l hl
    refine Ev.bind h2 ?_
    obtain ⟨b3, h3⟩ := long_ev s
    refine Ev.bind h3 ?_
    cases b3 with
    | true => exact Ev.now true
    | false =>
      have h4 : impl_SortEdits.f [⟨0, 0, ⟨#[120]⟩⟩] = some [(⟨0, 0, ⟨#[120]⟩⟩ : S28)] := rfl
      simp only [h4, Option.bind_some, List.length_cons, List.length_nil, Bool.false_eq_true, if_false]
      simp only [show (((0 + 1 : Nat) : Int) = 1) = True from eq_true rfl, if_true]
      obtain ⟨b5, h5, hn⟩ := near_ev l hl
      refine Ev.bind h5 ?_
      cases b5 with
      | false => exact Ev.now true
      | true =>
        have e1 : impl_SortEdits.f l = some ((SortU.sortE (l.map toE)).map ofE) := by unfold impl_SortEdits.f; rw [if_pos hl, if_pos (hn rfl)]
        have e2 : spec_Sorted.f l = some ((SortU.sortE (l.map toE)).map ofE) := by unfold spec_Sorted.f; rw [if_pos hl]
        refine Ev.bind ⟨0, fun _ _ => e1⟩ (Ev.bind ⟨0, fun _ _ => e2⟩ ?_)
        refine Ev.bind (same_ev _ ?_) (Ev.now true)
        rw [List.length_map, sortE_length, List.length_map]; exact hl
end Go.Proofs.Ytonajgipkpnpoaa.QFnSortReference
