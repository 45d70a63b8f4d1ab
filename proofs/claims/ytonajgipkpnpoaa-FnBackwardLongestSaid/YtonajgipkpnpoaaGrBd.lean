/- bdone, and the labels' law. -/
import Derived.Test.YtonajgipkpnpoaaGrBk
namespace Go.Proofs.Ytonajgipkpnpoaa.Gr
open Go.RowKit Go.Proofs.YtonajgipkpnpoaaW.PrintWords Go.Myers
section
variable {W : World} {B ge : Nat} {sq : Value} {lim dl : Int} {F : Nat → Prop} {nf : Nat} {Lf : Nat → Nat → Int} {nb : Nat} {Lb : Nat → Nat → Int} {N M : Nat}

theorem lab_back (h : EG W B ge sq lim N M dl F nf Lf nb Lb) (D : Nat) (k : Int) (hv : valid D k) (hD : D < nb) (hn : D < 1099511627776) :
    Calls Try.prog 42 #[.pointer (some ⟨ge, 2, none⟩), .int .i64 D, .int .i64 k] W fun e w' => e = .returned (.int .i64 (Lb D (ix D k))) ∧ W = w' := by
  obtain ⟨vf, vb, Ff, Fb, h⟩ := h
  have hi := ix_of hv
  exact label_get W B ge 2 Fb vb nb Lb ((blk_cell h.cells 2).trans rfl) h.tb D (ix D k) k hD hi.1 hi.2 hn

set_option maxRecDepth 100000 in
set_option maxHeartbeats 4000000 in
theorem bdone_yes (h : EG W B ge sq lim N M dl F nf Lf nb Lb) {E : Nat → Nat → Bool} (hd : dl = (N : Int) - M) (hN : N < 1099511627776) (hM : M < 1099511627776) (D : Nat) (k : Int) (hL : ∀ d k, d < D → valid d k → Lb d (ix d k) = lab E N dl d k) (hL0 : Lb D (ix D k) = lab E N dl D k)
    (hv : valid D k) (hD : D < nb) (hn : D < 1099511627776) (h0 : lab E N dl D k = 0) (h1 : lab E N dl D k - (k + dl) = 0) :
    Calls Try.prog 33 #[.pointer (some ⟨ge, 0, none⟩), .int .i64 D, .int .i64 k] W fun e w' => ∃ v l, e = .returned (.tuple #[.bool true, v]) ∧ BkAns E N M W w' D 0 0 v l := by
  have hg := lab_back h D k hv hD hn
  rw [hL0, h0] at hg
  have hb := back_lcs h hd hN hM D k hL hL0 hv hD hn (by omega) (by omega)
  rw [h1, h0] at hb
  rw [h0] at h1
  obtain ⟨vf, vb, Ff, Fb, h⟩ := h
  have c8 : W.cell? ⟨ge, 8, none⟩ = some (.int .i64 dl) := (blk_cell h.cells 8).trans rfl
  have t1 : (-(k + dl) == 0) = true := by rw [beq_iff_eq]; omega
  have t2 : (0 - (k + dl) == 0) = true := by rw [beq_iff_eq]; omega
  have b5 : -1099511627776 ≤ dl ∧ dl ≤ 1099511627776 := by omega
  have b8 : -1099511627776 ≤ k ∧ k ≤ 1099511627776 := by obtain ⟨a, b, _⟩ := hv; omega
  clear h hL hL0 hd h0 h1
  go_enter Try.func33, Try.ntmps33
  go_wp2_with (first | (go_at_call 42; refine hg.mono ?_; rintro e w' ⟨rfl, rfl⟩) | (go_at_call 36; refine hb.mono ?_; rintro e w' ⟨v, l, rfl, hb⟩))
  go_ret2
  exact ⟨v, l, rfl, hb⟩

set_option maxRecDepth 100000 in
set_option maxHeartbeats 4000000 in
theorem bdone_no (h : EG W B ge sq lim N M dl F nf Lf nb Lb) {E : Nat → Nat → Bool} (hd : dl = (N : Int) - M) (hN : N < 1099511627776) (hM : M < 1099511627776) (D : Nat) (k : Int) (hL0 : Lb D (ix D k) = lab E N dl D k)
    (hv : valid D k) (hD : D < nb) (hn : D < 1099511627776) (h0 : ¬ (lab E N dl D k = 0 ∧ lab E N dl D k - (k + dl) = 0)) (hlo : -1099511627776 ≤ lab E N dl D k) :
    Calls Try.prog 33 #[.pointer (some ⟨ge, 0, none⟩), .int .i64 D, .int .i64 k] W fun e w' => e = .returned (.tuple #[.bool false, .slice none 0 0]) ∧ W = w' := by
  have hg := lab_back h D k hv hD hn
  rw [hL0] at hg
  have hbd := lab_bound (E := E) hd D k hv
  obtain ⟨vf, vb, Ff, Fb, h⟩ := h
  have c8 : W.cell? ⟨ge, 8, none⟩ = some (.int .i64 dl) := (blk_cell h.cells 8).trans rfl
  have b5 : -1099511627776 ≤ dl ∧ dl ≤ 1099511627776 := by omega
  have b8 : -1099511627776 ≤ k ∧ k ≤ 1099511627776 := by obtain ⟨a, b, _⟩ := hv; omega
  have b9 := hbd.1
  clear h hL0 hd hbd
  by_cases hz : lab E N dl D k = 0
  · have t1 : (0 - (k + dl) == 0) = false := by rw [beq_eq_false_iff_ne]; intro e; exact h0 ⟨hz, by omega⟩
    have t2 : (-(k + dl) == 0) = false := by rw [beq_eq_false_iff_ne]; intro e; exact h0 ⟨hz, by omega⟩
    rw [hz] at hg
    clear hz h0 hlo b9
    go_enter Try.func33, Try.ntmps33
    go_wp2_with (go_at_call 42; refine hg.mono ?_; rintro e w' ⟨rfl, rfl⟩)
    go_ret2
    exact ⟨rfl, rfl⟩
  · have t1 : (lab E N dl D k == 0) = false := by rw [beq_eq_false_iff_ne]; exact hz
    clear hz h0
    go_enter Try.func33, Try.ntmps33
    go_wp2_with (go_at_call 42; refine hg.mono ?_; rintro e w' ⟨rfl, rfl⟩)
    go_ret2
    exact ⟨rfl, rfl⟩
end
end Go.Proofs.Ytonajgipkpnpoaa.Gr
