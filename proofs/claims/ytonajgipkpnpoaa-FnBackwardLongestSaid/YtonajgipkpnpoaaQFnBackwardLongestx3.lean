-- Written by a program of this session, after the kit's printer.
import Derived.Test.YtonajgipkpnpoaaQFnBackwardLongestx0
namespace Go.Proofs.Ytonajgipkpnpoaa.QFnBackwardLongest
open Go.RowKit Go.Proofs.YtonajgipkpnpoaaW.PrintWords Go.Proofs.YtonajgipkpnpoaaW.PrintLast Go.Proofs.YtonajgipkpnpoaaW.PrintMore
attribute [local go_sem] max2_int min2_int max_two min_two max_three min_three max_four min_four   -- for this text's walks alone
set_option linter.unusedVariables false
set_option linter.unusedSimpArgs false

/-! ### spec_Longest: function 18 -/
mutual
def spec_Longest.l0 : Nat → List Int → List Int → List Int → Int → Int → Option (Int)
  | 0, _, _, _, _, _ => none
  | k + 1, x1, x5, x16, x17, x18 => if x18 < x17 then (if 0 ≤ x18 then (if x18 < (x16.length : Int) then (spec_Longest.l1 k x1 x5 (rd x16 x18) 0 x16 x17 x18 x1 (x1.length : Int) 0) else (none)) else (none)) else (if 0 ≤ (x1.length : Int) then (if (x1.length : Int) < (x5.length : Int) then (some (rd x5 (x1.length : Int))) else (none)) else (none))
def spec_Longest.l1 : Nat → List Int → List Int → Int → Int → List Int → Int → Int → List Int → Int → Int → Option (Int)
  | 0, _, _, _, _, _, _, _, _, _, _ => none
  | k + 1, x1, x5, x7, x8, x16, x17, x18, x22, x23, x24 => if x24 < x23 then (if 0 ≤ x24 then (if x24 < (x22.length : Int) then (if 0 ≤ (wrap64 (x24 + 1)) then (if (wrap64 (x24 + 1)) < (x5.length : Int) then (if x7 = (rd x22 x24) then (spec_Longest.l1 k x1 (x5.set ((wrap64 (x24 + 1)) : Int).toNat (wrap64 (x8 + 1))) x7 (rd x5 (wrap64 (x24 + 1))) x16 x17 x18 x22 x23 (wrap64 (x24 + 1))) else (if x24 < (x5.length : Int) then (spec_Longest.l1 k x1 (x5.set ((wrap64 (x24 + 1)) : Int).toNat (mx (rd x5 (wrap64 (x24 + 1))) (rd x5 x24))) x7 (rd x5 (wrap64 (x24 + 1))) x16 x17 x18 x22 x23 (wrap64 (x24 + 1))) else (none))) else (none)) else (none)) else (none)) else (none)) else (spec_Longest.l0 k x1 x5 x16 x17 (wrap64 (x18 + 1)))
end
def spec_Longest.f (k : Nat) (l0 : List Int) (l1 : List Int) : Option (Int) := if 0 ≤ (wrap64 ((l1.length : Int) + 1)) then (if (wrap64 ((l1.length : Int) + 1) : Int).toNat ≤ 35184372088832 then (spec_Longest.l0 k l1 (List.replicate (wrap64 ((l1.length : Int) + 1) : Int).toNat 0) l0 (l0.length : Int) 0) else (none)) else (none)
theorem spec_Longest.mono_l : ∀ k, (∀ y0 y1 y2 y3 y4, LeO (spec_Longest.l0 k y0 y1 y2 y3 y4) (spec_Longest.l0 (k + 1) y0 y1 y2 y3 y4)) ∧ (∀ y0 y1 y2 y3 y4 y5 y6 y7 y8 y9, LeO (spec_Longest.l1 k y0 y1 y2 y3 y4 y5 y6 y7 y8 y9) (spec_Longest.l1 (k + 1) y0 y1 y2 y3 y4 y5 y6 y7 y8 y9))
  | 0 => ⟨fun _ _ _ _ _ r h => by simp [spec_Longest.l0] at h, fun _ _ _ _ _ _ _ _ _ _ r h => by simp [spec_Longest.l1] at h⟩
  | k + 1 => by
    obtain ⟨ih0, ih1⟩ := spec_Longest.mono_l k
    refine ⟨?_, ?_⟩
    · intro y0 y1 y2 y3 y4
      unfold spec_Longest.l0
      repeat' first
      | (with_reducible exact ih0 _ _ _ _ _)
      | (with_reducible exact ih1 _ _ _ _ _ _ _ _ _ _)
      | (with_reducible exact LeO.refl _)
      | (with_reducible exact LeO.none _)
      | (with_reducible refine LeO.ite ?_ ?_)
      | (with_reducible refine LeO.bind ?_ (fun _ => ?_))
      | exact ih0 _ _ _ _ _
      | exact ih1 _ _ _ _ _ _ _ _ _ _
      | exact LeO.none _
      | refine LeO.ite ?_ ?_
      | refine LeO.bind ?_ (fun _ => ?_)
    · intro y0 y1 y2 y3 y4 y5 y6 y7 y8 y9
      unfold spec_Longest.l1
      repeat' first
      | (with_reducible exact ih0 _ _ _ _ _)
      | (with_reducible exact ih1 _ _ _ _ _ _ _ _ _ _)
      | (with_reducible exact LeO.refl _)
      | (with_reducible exact LeO.none _)
      | (with_reducible refine LeO.ite ?_ ?_)
      | (with_reducible refine LeO.bind ?_ (fun _ => ?_))
      | exact ih0 _ _ _ _ _
      | exact ih1 _ _ _ _ _ _ _ _ _ _
      | exact LeO.none _
      | refine LeO.ite ?_ ?_
      | refine LeO.bind ?_ (fun _ => ?_)
theorem spec_Longest.mono : ∀ a0 a1 k, LeO (spec_Longest.f k a0 a1) (spec_Longest.f (k + 1) a0 a1) := by
  intro a0 a1 k
  obtain ⟨ih0, ih1⟩ := spec_Longest.mono_l k
  unfold spec_Longest.f
  repeat' first
      | (with_reducible exact ih0 _ _ _ _ _)
      | (with_reducible exact ih1 _ _ _ _ _ _ _ _ _ _)
      | (with_reducible exact LeO.refl _)
      | (with_reducible exact LeO.none _)
      | (with_reducible refine LeO.ite ?_ ?_)
      | (with_reducible refine LeO.bind ?_ (fun _ => ?_))
      | exact ih0 _ _ _ _ _
      | exact ih1 _ _ _ _ _ _ _ _ _ _
      | exact LeO.none _
      | refine LeO.ite ?_ ?_
      | refine LeO.bind ?_ (fun _ => ?_)
set_option maxHeartbeats 8000000 in
set_option maxRecDepth 100000 in
theorem spec_Longest.calls (k : Nat) (A0 : Option Addr) (c0 : Nat) (l0 : List Int) (A1 : Option Addr) (c1 : Nat) (l1 : List Int) (r : Int) (w : World) (hr0 : Kd.C (Kd.int .i64) w A0 l0.length l0) (hc0 : l0.length ≤ c0) (hr1 : Kd.C (Kd.int .i64) w A1 l1.length l1) (hc1 : l1.length ≤ c1) (h : spec_Longest.f k l0 l1 = some r) :
    Calls Try.prog 18 #[.slice A0 l0.length c0, .slice A1 l1.length c1] w fun e w' => e = .returned (.int .i64 r) ∧ Below w.heap.size w w' := by
  have HR0 := Aside0.mk hr0
  have HC0 := Aside0.mk hc0
  clear hr0 hc0
  have HR1 := Aside0.mk hr1
  have HC1 := Aside0.mk hc1
  clear hr1 hc1
  have HB := Aside0.mk (Below.refl w.heap.size w)
  have H : (if 0 ≤ (wrap64 ((l1.length : Int) + 1)) then (if (wrap64 ((l1.length : Int) + 1) : Int).toNat ≤ 35184372088832 then (spec_Longest.l0 k l1 (List.replicate (wrap64 ((l1.length : Int) + 1) : Int).toNat 0) l0 (l0.length : Int) 0) else (none)) else (none)) = some r := h
  clear h
  obtain ⟨ji3, hji3⟩ : ∃ j_ : Int, (wrap64 ((l1.length : Int) + 1)) = j_ := ⟨_, rfl⟩
  replace H : (if 0 ≤ (ji3) then (if (ji3 : Int).toNat ≤ 35184372088832 then (spec_Longest.l0 k l1 (List.replicate (ji3 : Int).toNat 0) l0 (l0.length : Int) 0) else (none)) else (none)) = some r := by first | (rw [hji3] at H; exact H) | (simp only [hji3] at H ⊢; exact H)
  have hji3w : (IntKind.i64.wrap ((l1.length : Int) + 1)) = ji3 := (i64_w _).trans hji3
  by_cases c4 : 0 ≤ (ji3)
  · rw [if_pos c4] at H
    have c4b0 := eq_true c4
    have c4b1 : decide (0 ≤ (ji3)) = true := decide_eq_true c4
    clear c4
    by_cases c5 : (ji3 : Int).toNat ≤ 35184372088832
    · rw [if_pos c5] at H
      have c5b0 := eq_true c5
      have c5b1 : decide ((ji3 : Int).toNat ≤ 35184372088832) = true := decide_eq_true c5
      clear c5
      obtain ⟨y154, hy154⟩ : ∃ y_ : List Int, y_ = (List.replicate (ji3 : Int).toNat 0) := ⟨_, rfl⟩
      replace H : (spec_Longest.l0 k l1 y154 l0 (l0.length : Int) 0) = some r := by first | (rw [hy154]; with_reducible exact H) | (have H2_ := (Option.bind_some _ _).symm.trans H; rw [hy154]; with_reducible exact H2_) | (have H2_ := (Option.bind_some _ _).symm.trans H; with_reducible exact H2_) | with_reducible exact H | (rw [hy154]; exact H) | exact H
      have Ny154 := Aside0.mk hy154
      clear hy154
      have H' := Aside0.mk H
      clear H
      go_enter Try.func18, Try.ntmps18
      go_wp2_with (first | ((with_reducible refine gate_dst (N := 15) rfl ?_); refine Kd.R_make (Kd.int .i64) _ 3 rfl (N := 15) rfl 36 _ _ rfl ji3 rfl rfl Try.underlying36 (.int .i64 0) 8 info3 rfl (by decide) (by omega) 0 (ok := fun _ => True) (okp := fun _ => True) rfl (fun _ hk => hk) trivial (of_decide_eq_true (by first | (with_reducible assumption) | assumption)) (Nat.le_trans (Nat.mul_le_mul_right _ (of_decide_eq_true (by first | (with_reducible assumption) | assumption) : ji3.toNat ≤ 35184372088832)) (by omega)) (Below.refl _ _) (Nat.le_refl _) ?_; intro v155 w6 ho7 hb hg_ hnew_; clear hg_ hnew_; (first | rw [← Ny154.out] at ho7 | (simp only [Int.reduceToNat] at ho7; rw [← Ny154.out] at ho7)); have n0_ := Aside0.mk (Kd.R_lower ho7 (below_size (by repeat (first | (with_reducible first | exact HB.out | apply below_alloc | apply pw_below_drewN | apply below_drew1) | exact HB.out)))); have n1_ := Aside0.mk (below_step (by repeat (first | (with_reducible first | exact HB.out | apply below_alloc | apply pw_below_drewN | apply below_drew1) | exact HB.out)) hb); clear HB; have HO156 := n0_; have HB := n1_; clear n0_ n1_; clear hb ho7))
      go_loopg [18] k (fun kq v18 w' => ∃ (x5_1 : List Int) (x18_1 : Int), v18 = .int .i64 x18_1 ∧ Aside0 (spec_Longest.l0 kq l1 x5_1 l0 (l0.length : Int) x18_1 = some r) ∧ Aside0 (kq ≤ k) ∧ Aside0 (Kd.R (Kd.int .i64) 3 w' w.heap.size (fun _ => True) v155 x5_1) ∧ Aside0 (Below w.heap.size w w'))
      case atStart => exact ⟨(y154), (0), (by first | rfl | (simp; done) | (simp [*]; done)), H', ⟨Nat.le_refl _⟩, ⟨by (with_reducible repeat (first | apply Kd.R_alloc | apply Kd.R_drewN | apply Kd.R_drew)); exact HO156.out⟩, ⟨by repeat (first | (with_reducible first | exact HB.out | apply below_alloc | apply pw_below_drewN | apply below_drew1) | exact HB.out)⟩⟩
      case round =>
        clear H'
        try clear c1
        try clear p2
        try clear c4
        try clear c4b0
        try clear c4b1
        try clear c5
        try clear c5b0
        try clear c5b1
        try clear p6
        obtain ⟨x5_1, x18_1, rfl, HA, HK1, HO_5, HB⟩ := hrel
        cases gk with
        | zero => exact absurd HA.out (by simp [spec_Longest.l0])
        | succ k1 =>
          have H := HA.out
          clear HA
          simp only [spec_Longest.l0] at H
          by_cases c8 : x18_1 < (l0.length : Int)
          · rw [if_pos c8] at H
            have c8b0 : decide (x18_1 < (l0.length : Int)) = true := decide_eq_true c8
            clear c8
            by_cases c9 : 0 ≤ x18_1
            · rw [if_pos c9] at H
              have c9b0 : decide (0 ≤ x18_1) = true := decide_eq_true c9
              clear c9
              by_cases c10 : x18_1 < (l0.length : Int)
              · rw [if_pos c10] at H
                have c10b0 : decide (x18_1 < (l0.length : Int)) = true := decide_eq_true c10
                clear c10
                have H' := Aside0.mk H
                clear H
                have p158 : 0 ≤ (x18_1 : Int) := of_decide_eq_true (by first | (with_reducible assumption) | assumption)
                have q158 : x18_1 < (l0.length : Int) := of_decide_eq_true (by first | (with_reducible assumption) | assumption)
                obtain ⟨ad158, e158, hx158_0⟩ := Kd.at_int HR0.out x18_1 p158 q158
                cases e158
                replace hx158_0 := (HB.out.cell (World.block_lt_of_cell? w _ hx158_0)).trans hx158_0
                replace p158 := eq_true p158
                replace q158 := eq_true q158
                go_wp2
                go_loopg [8, 24] k1 (fun kq v8 v24 w' => ∃ (x5_2 : List Int) (x8_2 : Int) (x24_2 : Int), v8 = .int .i64 x8_2 ∧ v24 = .int .i64 x24_2 ∧ Aside0 (spec_Longest.l1 kq l1 x5_2 (rd l0 x18_1) x8_2 l0 (l0.length : Int) x18_1 l1 (l1.length : Int) x24_2 = some r) ∧ Aside0 (kq ≤ k1) ∧ Aside0 (Kd.R (Kd.int .i64) 3 w' w.heap.size (fun _ => True) v155 x5_2) ∧ Aside0 (Below w.heap.size w w'))
                case atStart => exact ⟨(x5_1), (0), (0), (by first | rfl | (simp; done) | (simp [*]; done)), (by first | rfl | (simp; done) | (simp [*]; done)), H', ⟨Nat.le_refl _⟩, ⟨by (with_reducible repeat (first | apply Kd.R_alloc | apply Kd.R_drewN | apply Kd.R_drew)); exact HO_5.out⟩, ⟨by repeat (first | (with_reducible first | exact HB.out | apply below_alloc | apply pw_below_drewN | apply below_drew1) | exact HB.out)⟩⟩
                case round =>
                  clear H'
                  try clear c1
                  try clear p1
                  try clear q1
                  try clear hx1
                  try clear p2
                  try clear c4
                  try clear c4b0
                  try clear c4b1
                  try clear c5
                  try clear c5b0
                  try clear c5b1
                  try clear p6
                  try clear c8
                  try clear c8b0
                  try clear c9
                  try clear c9b0
                  try clear c10
                  try clear c10b0
                  try clear hx158_0
                  try clear p158
                  try clear p2
                  try clear p6
                  try clear q158
                  obtain ⟨x5_2, x8_2, x24_2, rfl, rfl, HA, HK2, HO_5, HB⟩ := hrel
                  cases gk with
                  | zero => exact absurd HA.out (by simp [spec_Longest.l1])
                  | succ k2 =>
                    have H := HA.out
                    clear HA
                    simp only [spec_Longest.l1] at H
                    by_cases c11 : x24_2 < (l1.length : Int)
                    · rw [if_pos c11] at H
                      have c11b0 : decide (x24_2 < (l1.length : Int)) = true := decide_eq_true c11
                      clear c11
                      by_cases c12 : 0 ≤ x24_2
                      · rw [if_pos c12] at H
                        have c12b0 : decide (0 ≤ x24_2) = true := decide_eq_true c12
                        clear c12
                        by_cases c13 : x24_2 < (l1.length : Int)
                        · rw [if_pos c13] at H
                          have c13b0 : decide (x24_2 < (l1.length : Int)) = true := decide_eq_true c13
                          clear c13
                          obtain ⟨ji14, hji14⟩ : ∃ j_ : Int, (wrap64 (x24_2 + 1)) = j_ := ⟨_, rfl⟩
                          replace H : (if 0 ≤ (ji14) then (if (ji14) < (x5_2.length : Int) then (if (rd l0 x18_1) = (rd l1 x24_2) then (spec_Longest.l1 k2 l1 (x5_2.set ((ji14) : Int).toNat (wrap64 (x8_2 + 1))) (rd l0 x18_1) (rd x5_2 (ji14)) l0 (l0.length : Int) x18_1 l1 (l1.length : Int) ji14) else (if x24_2 < (x5_2.length : Int) then (spec_Longest.l1 k2 l1 (x5_2.set ((ji14) : Int).toNat (mx (rd x5_2 (ji14)) (rd x5_2 x24_2))) (rd l0 x18_1) (rd x5_2 (ji14)) l0 (l0.length : Int) x18_1 l1 (l1.length : Int) ji14) else (none))) else (none)) else (none)) = some r := by first | (rw [hji14] at H; exact H) | (simp only [hji14] at H ⊢; exact H)
                          have hji14w : (IntKind.i64.wrap (x24_2 + 1)) = ji14 := (i64_w _).trans hji14
                          by_cases c15 : 0 ≤ (ji14)
                          · rw [if_pos c15] at H
                            have c15b0 : decide (0 ≤ (ji14)) = true := decide_eq_true c15
                            clear c15
                            by_cases c16 : (ji14) < (x5_2.length : Int)
                            · rw [if_pos c16] at H
                              have c16b0 : decide ((ji14) < (x5_2.length : Int)) = true := decide_eq_true c16
                              clear c16
                              by_cases c17 : (rd l0 x18_1) = (rd l1 x24_2)
                              · rw [if_pos c17] at H
                                have c17b0 : ((rd l0 x18_1) == (rd l1 x24_2)) = true := beq_iff_eq.mpr c17
                                have c17b1 : ((rd l0 x18_1) != (rd l1 x24_2)) = false := bne_eq_false_iff_eq.mpr c17
                                clear c17
                                obtain ⟨y161, hy161⟩ : ∃ y_ : List Int, y_ = (x5_2.set ((ji14) : Int).toNat (wrap64 (x8_2 + 1))) := ⟨_, rfl⟩
                                replace H : (spec_Longest.l1 k2 l1 y161 (rd l0 x18_1) (rd x5_2 (ji14)) l0 (l0.length : Int) x18_1 l1 (l1.length : Int) ji14) = some r := by first | (rw [hy161]; with_reducible exact H) | (have H2_ := (Option.bind_some _ _).symm.trans H; rw [hy161]; with_reducible exact H2_) | (have H2_ := (Option.bind_some _ _).symm.trans H; with_reducible exact H2_) | with_reducible exact H | (rw [hy161]; exact H) | exact H
                                have Ny161 := Aside0.mk hy161
                                clear hy161
                                have H' := Aside0.mk H
                                clear H
                                have p159 : 0 ≤ (x24_2 : Int) := of_decide_eq_true (by first | (with_reducible assumption) | assumption)
                                have q159 : x24_2 < (l1.length : Int) := of_decide_eq_true (by first | (with_reducible assumption) | assumption)
                                obtain ⟨ad159, e159, hx159_0⟩ := Kd.at_int HR1.out x24_2 p159 q159
                                cases e159
                                replace hx159_0 := (HB.out.cell (World.block_lt_of_cell? w _ hx159_0)).trans hx159_0
                                replace p159 := eq_true p159
                                replace q159 := eq_true q159
                                obtain ⟨Ao19, co19, eo19⟩ := Kd.R_slice HO_5.out
                                subst eo19
                                have p160 : 0 ≤ ((ji14) : Int) := of_decide_eq_true (by first | (with_reducible assumption) | assumption)
                                have q160 : (ji14) < (x5_2.length : Int) := of_decide_eq_true (by first | (with_reducible assumption) | assumption)
                                obtain ⟨ad160, e160, hx160_0⟩ := Kd.at_int (Kd.R_reads' HO_5.out).2.2 (ji14) p160 q160
                                cases e160
                                replace p160 := eq_true p160
                                replace q160 := eq_true q160
                                have p18 : 0 ≤ ((ji14) : Int) := of_decide_eq_true (by first | (with_reducible assumption) | assumption)
                                have q18 : ((ji14) : Int) < ((x5_2.length : Int) : Int) := of_decide_eq_true (by first | (with_reducible assumption) | assumption)
                                obtain ⟨go18, co18, eo18, gb18, gl18, cl18, HG18⟩ := Kd.R_form HO_5.out (by omega)
                                (first | cases eo18 | (injection eo18 with ea_ en_ ec_; (first | subst ea_ | (injection ea_ with ea_; subst ea_)); subst ec_; clear en_))
                                have GB18 := Aside0.mk gb18
                                have GG18 := Aside0.mk HG18
                                clear gb18 gl18 HG18
                                (first | simp only [add_plain] at hx160_0 | skip)
                                obtain ⟨hx18_0, hf18_0⟩ := Kd.R_celln 0 HO_5.out ((ji14) : Int) p18 q18
                                replace p18 := eq_true p18
                                replace q18 := eq_true q18
                                have HP20 := Kd.R_putg HO_5.out ((ji14) : Int) (wrap64 (x8_2 + 1))
                                go_wp2_with (first | ((with_reducible refine gate_store (t := 3) (p := 42) rfl ?_); refine store_event (t := 3) (p := 42) (v := ?vo_w21) (w1 := (wr.setCell ⟨go18, ((ji14) : Int).toNat, none⟩ (.int .i64 (wrap64 (x8_2 + 1))))) ?hg ?ho ?hn ?hr ?_; (case ho => rfl); (case hg => rfl); (case hn => rfl); (case hr => first | (go_simp; done) | (go_simp; rfl)); intro w21 hw; have hg : wr.grownBy w21 (some go18) := (by rw [hw]; exact HP20.2); have hp_ : Kd.R (Kd.int .i64) 3 w21 w.heap.size (fun _ => True) (.slice (some ⟨go18, 0, none⟩) x5_2.length co19) y161 := (by rw [hw, Ny161.out]; exact HP20.1); clear HP20; have n0_ := Aside0.mk (hp_); have n1_ := Aside0.mk ((by rw [hw]; exact below_set (HB.out) GB18.out : Below w.heap.size w w21)); clear HO_5; clear HB; have HO_5 := n0_; have HB := n1_; clear n0_ n1_; clear hg hw hp_))
                                go_roundg k2
                                case measure => have := HK1.out; have := HK2.out; omega
                                case rel => exact ⟨(y161), (rd x5_2 (ji14)), (ji14), (by first | rfl | (simp; done) | (simp only [← hji14] <;> (first | rfl | simp)) | (simp [*]; done)), (by first | rfl | (simp; done) | (simp only [← hji14] <;> (first | rfl | simp)) | (simp [*]; done)), H', ⟨by have := HK1.out; have := HK2.out; omega⟩, ⟨by (with_reducible repeat (first | apply Kd.R_alloc | apply Kd.R_drewN | apply Kd.R_drew)); exact HO_5.out⟩, ⟨by repeat (first | (with_reducible first | exact HB.out | apply below_alloc | apply pw_below_drewN | apply below_drew1) | exact HB.out)⟩⟩
                              · rw [if_neg c17] at H
                                have c17b0 : ((rd l0 x18_1) == (rd l1 x24_2)) = false := beq_eq_false_iff_ne.mpr c17
                                have c17b1 : ((rd l0 x18_1) != (rd l1 x24_2)) = true := bne_iff_ne.mpr c17
                                by_cases c22 : x24_2 < (x5_2.length : Int)
                                · rw [if_pos c22] at H
                                  have c22b0 : decide (x24_2 < (x5_2.length : Int)) = true := decide_eq_true c22
                                  clear c22
                                  obtain ⟨ji23, hji23⟩ : ∃ j_ : Int, (mx (rd x5_2 (ji14)) (rd x5_2 x24_2)) = j_ := ⟨_, rfl⟩
                                  replace H : (spec_Longest.l1 k2 l1 (x5_2.set ((ji14) : Int).toNat (ji23)) (rd l0 x18_1) (rd x5_2 (ji14)) l0 (l0.length : Int) x18_1 l1 (l1.length : Int) ji14) = some r := by first | (rw [hji23] at H; exact H) | (simp only [hji23] at H ⊢; exact H)
                                  have hji23_ : (if (rd x5_2 (ji14)) < (rd x5_2 x24_2) then (rd x5_2 x24_2) else (rd x5_2 (ji14))) = ji23 := hji23
                                  obtain ⟨y163, hy163⟩ : ∃ y_ : List Int, y_ = (x5_2.set ((ji14) : Int).toNat (ji23)) := ⟨_, rfl⟩
                                  replace H : (spec_Longest.l1 k2 l1 y163 (rd l0 x18_1) (rd x5_2 (ji14)) l0 (l0.length : Int) x18_1 l1 (l1.length : Int) ji14) = some r := by first | (rw [hy163]; with_reducible exact H) | (have H2_ := (Option.bind_some _ _).symm.trans H; rw [hy163]; with_reducible exact H2_) | (have H2_ := (Option.bind_some _ _).symm.trans H; with_reducible exact H2_) | with_reducible exact H | (rw [hy163]; exact H) | exact H
                                  have Ny163 := Aside0.mk hy163
                                  clear hy163
                                  have H' := Aside0.mk H
                                  clear H
                                  have p159 : 0 ≤ (x24_2 : Int) := of_decide_eq_true (by first | (with_reducible assumption) | assumption)
                                  have q159 : x24_2 < (l1.length : Int) := of_decide_eq_true (by first | (with_reducible assumption) | assumption)
                                  obtain ⟨ad159, e159, hx159_0⟩ := Kd.at_int HR1.out x24_2 p159 q159
                                  cases e159
                                  replace hx159_0 := (HB.out.cell (World.block_lt_of_cell? w _ hx159_0)).trans hx159_0
                                  replace p159 := eq_true p159
                                  replace q159 := eq_true q159
                                  obtain ⟨Ao25, co25, eo25⟩ := Kd.R_slice HO_5.out
                                  subst eo25
                                  have p160 : 0 ≤ ((ji14) : Int) := of_decide_eq_true (by first | (with_reducible assumption) | assumption)
                                  have q160 : (ji14) < (x5_2.length : Int) := of_decide_eq_true (by first | (with_reducible assumption) | assumption)
                                  obtain ⟨ad160, e160, hx160_0⟩ := Kd.at_int (Kd.R_reads' HO_5.out).2.2 (ji14) p160 q160
                                  cases e160
                                  replace p160 := eq_true p160
                                  replace q160 := eq_true q160
                                  have p162 : 0 ≤ (x24_2 : Int) := of_decide_eq_true (by first | (with_reducible assumption) | assumption)
                                  have q162 : x24_2 < (x5_2.length : Int) := of_decide_eq_true (by first | (with_reducible assumption) | assumption)
                                  obtain ⟨ad162, e162, hx162_0⟩ := Kd.at_int (Kd.R_reads' HO_5.out).2.2 x24_2 p162 q162
                                  obtain rfl : ad160 = ad162 := (by injection e162)
                                  replace p162 := eq_true p162
                                  replace q162 := eq_true q162
                                  have p24 : 0 ≤ ((ji14) : Int) := of_decide_eq_true (by first | (with_reducible assumption) | assumption)
                                  have q24 : ((ji14) : Int) < ((x5_2.length : Int) : Int) := of_decide_eq_true (by first | (with_reducible assumption) | assumption)
                                  obtain ⟨go24, co24, eo24, gb24, gl24, cl24, HG24⟩ := Kd.R_form HO_5.out (by omega)
                                  (first | cases eo24 | (injection eo24 with ea_ en_ ec_; (first | subst ea_ | (injection ea_ with ea_; subst ea_)); subst ec_; clear en_))
                                  have GB24 := Aside0.mk gb24
                                  have GG24 := Aside0.mk HG24
                                  clear gb24 gl24 HG24
                                  (first | simp only [add_plain] at hx160_0 | skip)
                                  (first | simp only [add_plain] at hx162_0 | skip)
                                  obtain ⟨hx24_0, hf24_0⟩ := Kd.R_celln 0 HO_5.out ((ji14) : Int) p24 q24
                                  replace p24 := eq_true p24
                                  replace q24 := eq_true q24
                                  have HP26 := Kd.R_putg HO_5.out ((ji14) : Int) ji23
                                  go_wp2_with (first | ((with_reducible refine gate_store (t := 3) (p := 52) rfl ?_); refine store_event (t := 3) (p := 52) (v := ?vo_w27) (w1 := (wr.setCell ⟨go24, ((ji14) : Int).toNat, none⟩ (.int .i64 ji23))) ?hg ?ho ?hn ?hr ?_; (case ho => rfl); (case hg => rfl); (case hn => rfl); (case hr => first | (go_simp; done) | (go_simp; rfl)); intro w27 hw; have hg : wr.grownBy w27 (some go24) := (by rw [hw]; exact HP26.2); have hp_ : Kd.R (Kd.int .i64) 3 w27 w.heap.size (fun _ => True) (.slice (some ⟨go24, 0, none⟩) x5_2.length co25) y163 := (by rw [hw, Ny163.out]; exact HP26.1); clear HP26; have n0_ := Aside0.mk (hp_); have n1_ := Aside0.mk ((by rw [hw]; exact below_set (HB.out) GB24.out : Below w.heap.size w w27)); clear HO_5; clear HB; have HO_5 := n0_; have HB := n1_; clear n0_ n1_; clear hg hw hp_))
                                  go_roundg k2
                                  case measure => have := HK1.out; have := HK2.out; omega
                                  case rel => exact ⟨(y163), (rd x5_2 (ji14)), (ji14), (by first | rfl | (simp; done) | (simp only [← hji14] <;> (first | rfl | simp)) | (simp [*]; done)), (by first | rfl | (simp; done) | (simp only [← hji14] <;> (first | rfl | simp)) | (simp [*]; done)), H', ⟨by have := HK1.out; have := HK2.out; omega⟩, ⟨by (with_reducible repeat (first | apply Kd.R_alloc | apply Kd.R_drewN | apply Kd.R_drew)); exact HO_5.out⟩, ⟨by repeat (first | (with_reducible first | exact HB.out | apply below_alloc | apply pw_below_drewN | apply below_drew1) | exact HB.out)⟩⟩
                                · rw [if_neg c22] at H
                                  exact absurd H (by simp)
                            · rw [if_neg c16] at H
                              exact absurd H (by simp)
                          · rw [if_neg c15] at H
                            exact absurd H (by simp)
                        · rw [if_neg c13] at H
                          exact absurd H (by simp)
                      · rw [if_neg c12] at H
                        exact absurd H (by simp)
                    · rw [if_neg c11] at H
                      have c11b0 : decide (x24_2 < (l1.length : Int)) = false := decide_eq_false c11
                      clear c11
                      have H' := Aside0.mk H
                      clear H
                      go_wp2
                      go_roundg k2
                      case measure => have := HK1.out; have := HK2.out; omega
                      case rel => exact ⟨(x5_2), (wrap64 (x18_1 + 1)), (by first | rfl | (simp; done) | (simp [*]; done)), H', ⟨by have := HK1.out; have := HK2.out; omega⟩, ⟨by (with_reducible repeat (first | apply Kd.R_alloc | apply Kd.R_drewN | apply Kd.R_drew)); exact HO_5.out⟩, ⟨by repeat (first | (with_reducible first | exact HB.out | apply below_alloc | apply pw_below_drewN | apply below_drew1) | exact HB.out)⟩⟩
              · rw [if_neg c10] at H
                exact absurd H (by simp)
            · rw [if_neg c9] at H
              exact absurd H (by simp)
          · rw [if_neg c8] at H
            have c8b0 : decide (x18_1 < (l0.length : Int)) = false := decide_eq_false c8
            clear c8
            by_cases c28 : 0 ≤ (l1.length : Int)
            · rw [if_pos c28] at H
              have c28b0 : decide (0 ≤ (l1.length : Int)) = true := decide_eq_true c28
              have c28b1 : decide (0 ≤ l1.length) = true := decide_eq_true (by omega)
              clear c28
              by_cases c29 : (l1.length : Int) < (x5_1.length : Int)
              · rw [if_pos c29] at H
                have c29b0 : decide ((l1.length : Int) < (x5_1.length : Int)) = true := decide_eq_true c29
                have c29b1 : decide (l1.length < x5_1.length) = true := decide_eq_true (Int.ofNat_lt.mp c29)
                clear c29
                obtain rfl := Option.some.inj H
                obtain ⟨Ao30, co30, eo30⟩ := Kd.R_slice HO_5.out
                subst eo30
                have p157 : 0 ≤ ((l1.length : Int) : Int) := of_decide_eq_true (by first | (with_reducible assumption) | assumption)
                have q157 : (l1.length : Int) < (x5_1.length : Int) := of_decide_eq_true (by first | (with_reducible assumption) | assumption)
                obtain ⟨ad157, e157, hx157_0⟩ := Kd.at_int (Kd.R_reads' HO_5.out).2.2 (l1.length : Int) p157 q157
                cases e157
                (try simp only [Go.IntWalk.toNatUp] at hx157_0)
                replace p157 := eq_true p157
                replace q157 := eq_true q157
                go_wp2
                go_ret
                exact ⟨by first | rfl | (simp [errW_none, errW_some] <;> rfl) | (simp only [← hji3]; first | rfl | (simp [errW_none, errW_some] <;> rfl)) | (simp [*, errW_none, errW_some] <;> rfl), by repeat (first | (with_reducible first | exact HB.out | apply below_alloc | apply pw_below_drewN | apply below_drew1) | exact HB.out)⟩
              · rw [if_neg c29] at H
                exact absurd H (by simp)
            · rw [if_neg c28] at H
              exact absurd H (by simp)
    · rw [if_neg c5] at H
      exact absurd H (by simp)
  · rw [if_neg c4] at H
    exact absurd H (by simp)

-- NOT PRINTED: function 5 (laws_FnBackwardLongest)

end Go.Proofs.Ytonajgipkpnpoaa.QFnBackwardLongest
