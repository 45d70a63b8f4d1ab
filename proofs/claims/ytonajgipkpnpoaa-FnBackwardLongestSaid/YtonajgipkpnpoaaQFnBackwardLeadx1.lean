-- Written by a program of this session, after the kit's printer.
import Derived.Test.YtonajgipkpnpoaaQFnBackwardLeadx0
namespace Go.Proofs.Ytonajgipkpnpoaa.QFnBackwardLead
open Go.RowKit Go.Proofs.YtonajgipkpnpoaaW.PrintWords Go.Proofs.YtonajgipkpnpoaaW.PrintLast Go.Proofs.YtonajgipkpnpoaaW.PrintMore
attribute [local go_sem] max2_int min2_int max_two min_two max_three min_three max_four min_four   -- for this text's walks alone
set_option linter.unusedVariables false
set_option linter.unusedSimpArgs false

/-! ### spec_TooLong: function 7 -/
def spec_TooLong.l0 : Nat → Int → List Int → Int → Int → Option (Bool)
  | 0, _, _, _, _ => none
  | k + 1, x3, x6, x7, x8 => if x8 < x7 then (if 0 ≤ x8 then (if x8 < (x6.length : Int) then (if (rd x6 x8) > (wrap64 (1000000 - x3)) then (some true) else (spec_TooLong.l0 k (wrap64 (x3 + (rd x6 x8))) x6 x7 (wrap64 (x8 + 1)))) else (none)) else (none)) else (some false)
def spec_TooLong.f (k : Nat) (l0 : List Int) : Option (Bool) := spec_TooLong.l0 k 0 l0 (l0.length : Int) 0
theorem spec_TooLong.mono_l : ∀ k, (∀ y0 y1 y2 y3, LeO (spec_TooLong.l0 k y0 y1 y2 y3) (spec_TooLong.l0 (k + 1) y0 y1 y2 y3))
  | 0 => fun _ _ _ _ r h => by simp [spec_TooLong.l0] at h
  | k + 1 => by
    have ih0 := spec_TooLong.mono_l k
    · intro y0 y1 y2 y3
      unfold spec_TooLong.l0
      repeat' first
      | (with_reducible exact ih0 _ _ _ _)
      | (with_reducible exact LeO.refl _)
      | (with_reducible exact LeO.none _)
      | (with_reducible refine LeO.ite ?_ ?_)
      | (with_reducible refine LeO.bind ?_ (fun _ => ?_))
      | exact ih0 _ _ _ _
      | exact LeO.none _
      | refine LeO.ite ?_ ?_
      | refine LeO.bind ?_ (fun _ => ?_)
theorem spec_TooLong.mono : ∀ a0 k, LeO (spec_TooLong.f k a0) (spec_TooLong.f (k + 1) a0) := by
  intro a0 k
  have ih0 := spec_TooLong.mono_l k
  unfold spec_TooLong.f
  repeat' first
      | (with_reducible exact ih0 _ _ _ _)
      | (with_reducible exact LeO.refl _)
      | (with_reducible exact LeO.none _)
      | (with_reducible refine LeO.ite ?_ ?_)
      | (with_reducible refine LeO.bind ?_ (fun _ => ?_))
      | exact ih0 _ _ _ _
      | exact LeO.none _
      | refine LeO.ite ?_ ?_
      | refine LeO.bind ?_ (fun _ => ?_)
set_option maxHeartbeats 8000000 in
set_option maxRecDepth 100000 in
theorem spec_TooLong.calls (k : Nat) (A0 : Option Addr) (c0 : Nat) (l0 : List Int) (r : Bool) (w : World) (hr0 : Kd.C (Kd.int .i64) w A0 l0.length l0) (hc0 : l0.length ≤ c0) (h : spec_TooLong.f k l0 = some r) :
    Calls Try.prog 7 #[.slice A0 l0.length c0] w fun e w' => e = .returned (.bool r) ∧ Drawn0 w w' := by
  have HR0 := Aside0.mk hr0
  have HC0 := Aside0.mk hc0
  clear hr0 hc0
  have H : (spec_TooLong.l0 k 0 l0 (l0.length : Int) 0) = some r := h
  clear h
  have H' := Aside0.mk H
  clear H
  go_enter Try.func7, Try.ntmps7
  go_wp2
  go_loopg [3, 8] k (fun kq v3 v8 w' => ∃ (x3_1 : Int) (x8_1 : Int), v3 = .int .i64 x3_1 ∧ v8 = .int .i64 x8_1 ∧ Aside0 (spec_TooLong.l0 kq x3_1 l0 (l0.length : Int) x8_1 = some r) ∧ Aside0 (kq ≤ k) ∧ Drawn0 w w')
  case atStart => exact ⟨(0), (0), (by first | rfl | (simp; done) | (simp [*]; done)), (by first | rfl | (simp; done) | (simp [*]; done)), H', ⟨Nat.le_refl _⟩, by repeat (first | exact Drawn0.refl _ | apply Drawn0.step)⟩
  case round =>
    clear H'
    obtain ⟨x3_1, x8_1, rfl, rfl, HA, HK1, ⟨m1, rfl⟩⟩ := hrel
    cases gk with
    | zero => exact absurd HA.out (by simp [spec_TooLong.l0])
    | succ k1 =>
      have H := HA.out
      clear HA
      simp only [spec_TooLong.l0] at H
      by_cases c2 : x8_1 < (l0.length : Int)
      · rw [if_pos c2] at H
        have c2b0 : decide (x8_1 < (l0.length : Int)) = true := decide_eq_true c2
        clear c2
        by_cases c3 : 0 ≤ x8_1
        · rw [if_pos c3] at H
          have c3b0 : decide (0 ≤ x8_1) = true := decide_eq_true c3
          clear c3
          by_cases c4 : x8_1 < (l0.length : Int)
          · rw [if_pos c4] at H
            have c4b0 : decide (x8_1 < (l0.length : Int)) = true := decide_eq_true c4
            clear c4
            by_cases c5 : (rd l0 x8_1) > (wrap64 (1000000 - x3_1))
            · rw [if_pos c5] at H
              have c5b0 : decide ((wrap64 (1000000 - x3_1)) < (rd l0 x8_1)) = true := decide_eq_true c5
              clear c5
              obtain rfl := Option.some.inj H
              have p101 : 0 ≤ (x8_1 : Int) := of_decide_eq_true (by first | (with_reducible assumption) | assumption)
              have q101 : x8_1 < (l0.length : Int) := of_decide_eq_true (by first | (with_reducible assumption) | assumption)
              obtain ⟨ad101, e101, hx101_0⟩ := Kd.at_int HR0.out x8_1 p101 q101
              cases e101
              replace p101 := eq_true p101
              replace q101 := eq_true q101
              go_wp2
              go_ret
              exact ⟨by first | rfl | (simp; done) | (simp [*]; done), by repeat (first | exact Drawn0.refl _ | apply Drawn0.step)⟩
            · rw [if_neg c5] at H
              have c5b0 : decide ((wrap64 (1000000 - x3_1)) < (rd l0 x8_1)) = false := decide_eq_false c5
              clear c5
              have H' := Aside0.mk H
              clear H
              have p101 : 0 ≤ (x8_1 : Int) := of_decide_eq_true (by first | (with_reducible assumption) | assumption)
              have q101 : x8_1 < (l0.length : Int) := of_decide_eq_true (by first | (with_reducible assumption) | assumption)
              obtain ⟨ad101, e101, hx101_0⟩ := Kd.at_int HR0.out x8_1 p101 q101
              cases e101
              replace p101 := eq_true p101
              replace q101 := eq_true q101
              go_wp2
              go_roundg k1
              case measure => have := HK1.out; omega
              case rel => exact ⟨(wrap64 (x3_1 + (rd l0 x8_1))), (wrap64 (x8_1 + 1)), (by first | rfl | (simp; done) | (simp [*]; done)), (by first | rfl | (simp; done) | (simp [*]; done)), H', ⟨by have := HK1.out; omega⟩, by repeat (first | exact Drawn0.refl _ | apply Drawn0.step)⟩
          · rw [if_neg c4] at H
            exact absurd H (by simp)
        · rw [if_neg c3] at H
          exact absurd H (by simp)
      · rw [if_neg c2] at H
        have c2b0 : decide (x8_1 < (l0.length : Int)) = false := decide_eq_false c2
        clear c2
        obtain rfl := Option.some.inj H
        go_wp2
        go_ret
        exact ⟨by first | rfl | (simp; done) | (simp [*]; done), by repeat (first | exact Drawn0.refl _ | apply Drawn0.step)⟩

/-! ### impl_Limit: function 17 -/
def impl_Limit.f (a0 : Int) : Option (Int) := some (wrap64 (1 + (Int.tmod (wrap64 ((Int.tmod a0 2000) + 2000)) 2000)))
set_option maxHeartbeats 8000000 in
set_option maxRecDepth 100000 in
theorem impl_Limit.calls (a0 : Int) (r : Int) (w : World) (h : impl_Limit.f a0 = some r) :
    Calls Try.prog 17 #[.int .i64 a0] w fun e w' => e = .returned (.int .i64 r) ∧ Drawn0 w w' := by
  have H : (some (wrap64 (1 + (Int.tmod (wrap64 ((Int.tmod a0 2000) + 2000)) 2000)))) = some r := h
  clear h
  obtain rfl := Option.some.inj H
  go_enter Try.func17, Try.ntmps17
  go_wp2
  go_ret
  exact ⟨by first | rfl | (simp; done) | (simp [*]; done), by repeat (first | exact Drawn0.refl _ | apply Drawn0.step)⟩

/-! ### by hand elsewhere -/

/-! ### xdiff_lcs_lcs_toDiffs: function 40 -/
def xdiff_lcs_lcs_toDiffs.l0 : Nat → Int → Int → List (S64) → Int → Int → List (S76) → Int → Int → Option ((List (S64)))
  | 0, _, _, _, _, _, _, _, _ => none
  | k + 1, x1, x2, x7, x8, x9, x12, x13, x14 => if x14 < x13 then (if 0 ≤ x14 then (if x14 < (x12.length : Int) then (if x8 < ((rd_T76 x12 x14).f0) then (if x7.length < 4398046511104 then (xdiff_lcs_lcs_toDiffs.l0 k x1 x2 (x7 ++ [(⟨x8, (rd_T76 x12 x14).f0, x9, (rd_T76 x12 x14).f1⟩ : S64)]) (wrap64 (((rd_T76 x12 x14).f0) + ((rd_T76 x12 x14).f2))) (wrap64 (((rd_T76 x12 x14).f1) + ((rd_T76 x12 x14).f2))) x12 x13 (wrap64 (x14 + 1))) else (none)) else (if x9 < ((rd_T76 x12 x14).f1) then (if x7.length < 4398046511104 then (xdiff_lcs_lcs_toDiffs.l0 k x1 x2 (x7 ++ [(⟨x8, (rd_T76 x12 x14).f0, x9, (rd_T76 x12 x14).f1⟩ : S64)]) (wrap64 (((rd_T76 x12 x14).f0) + ((rd_T76 x12 x14).f2))) (wrap64 (((rd_T76 x12 x14).f1) + ((rd_T76 x12 x14).f2))) x12 x13 (wrap64 (x14 + 1))) else (none)) else (xdiff_lcs_lcs_toDiffs.l0 k x1 x2 x7 (wrap64 (((rd_T76 x12 x14).f0) + ((rd_T76 x12 x14).f2))) (wrap64 (((rd_T76 x12 x14).f1) + ((rd_T76 x12 x14).f2))) x12 x13 (wrap64 (x14 + 1))))) else (none)) else (none)) else (if x8 < x1 then (if x7.length < 4398046511104 then (some (x7 ++ [(⟨x8, x1, x9, x2⟩ : S64)])) else (none)) else (if x9 < x2 then (if x7.length < 4398046511104 then (some (x7 ++ [(⟨x8, x1, x9, x2⟩ : S64)])) else (none)) else (some x7)))
def xdiff_lcs_lcs_toDiffs.f (k : Nat) (l0 : List (S76)) (a1 : Int) (a2 : Int) : Option ((List (S64))) := xdiff_lcs_lcs_toDiffs.l0 k a1 a2 ([] : List (S64)) 0 0 l0 (l0.length : Int) 0
theorem xdiff_lcs_lcs_toDiffs.mono_l : ∀ k, (∀ y0 y1 y2 y3 y4 y5 y6 y7, LeO (xdiff_lcs_lcs_toDiffs.l0 k y0 y1 y2 y3 y4 y5 y6 y7) (xdiff_lcs_lcs_toDiffs.l0 (k + 1) y0 y1 y2 y3 y4 y5 y6 y7))
  | 0 => fun _ _ _ _ _ _ _ _ r h => by simp [xdiff_lcs_lcs_toDiffs.l0] at h
  | k + 1 => by
    have ih0 := xdiff_lcs_lcs_toDiffs.mono_l k
    · intro y0 y1 y2 y3 y4 y5 y6 y7
      unfold xdiff_lcs_lcs_toDiffs.l0
      repeat' first
      | (with_reducible exact ih0 _ _ _ _ _ _ _ _)
      | (with_reducible exact LeO.refl _)
      | (with_reducible exact LeO.none _)
      | (with_reducible refine LeO.ite ?_ ?_)
      | (with_reducible refine LeO.bind ?_ (fun _ => ?_))
      | exact ih0 _ _ _ _ _ _ _ _
      | exact LeO.none _
      | refine LeO.ite ?_ ?_
      | refine LeO.bind ?_ (fun _ => ?_)
theorem xdiff_lcs_lcs_toDiffs.mono : ∀ a0 a1 a2 k, LeO (xdiff_lcs_lcs_toDiffs.f k a0 a1 a2) (xdiff_lcs_lcs_toDiffs.f (k + 1) a0 a1 a2) := by
  intro a0 a1 a2 k
  have ih0 := xdiff_lcs_lcs_toDiffs.mono_l k
  unfold xdiff_lcs_lcs_toDiffs.f
  repeat' first
      | (with_reducible exact ih0 _ _ _ _ _ _ _ _)
      | (with_reducible exact LeO.refl _)
      | (with_reducible exact LeO.none _)
      | (with_reducible refine LeO.ite ?_ ?_)
      | (with_reducible refine LeO.bind ?_ (fun _ => ?_))
      | exact ih0 _ _ _ _ _ _ _ _
      | exact LeO.none _
      | refine LeO.ite ?_ ?_
      | refine LeO.bind ?_ (fun _ => ?_)
set_option maxHeartbeats 8000000 in
set_option maxRecDepth 100000 in
theorem xdiff_lcs_lcs_toDiffs.calls (k : Nat) (A0 : Option Addr) (c0 : Nat) (l0 : List (S76)) (a1 : Int) (a2 : Int) (r : List (S64)) (w : World) (hr0 : Kd.C k76 w A0 l0.length l0) (hc0 : l0.length ≤ c0) (h : xdiff_lcs_lcs_toDiffs.f k l0 a1 a2 = some r) :
    Calls Try.prog 40 #[.slice A0 l0.length c0, .int .i64 a1, .int .i64 a2] w fun e w' => ∃ v0_ : Value, e = .returned (v0_) ∧ Kd.R k64 64 w' w.heap.size (fun _ => True) v0_ r ∧ Below w.heap.size w w' := by
  have hu76 := Try.underlying76
  have hu64 := Try.underlying64
  have HR0 := Aside0.mk hr0
  have HC0 := Aside0.mk hc0
  clear hr0 hc0
  have HB := Aside0.mk (Below.refl w.heap.size w)
  have H : (xdiff_lcs_lcs_toDiffs.l0 k a1 a2 ([] : List (S64)) 0 0 l0 (l0.length : Int) 0) = some r := h
  clear h
  have H' := Aside0.mk H
  clear H
  go_enter Try.func40, Try.ntmps40
  go_wp2
  go_loopg [7, 8, 9, 14] k (fun kq v7 v8 v9 v14 w' => ∃ (x7_1 : List (S64)) (x8_1 : Int) (x9_1 : Int) (x14_1 : Int), v8 = .int .i64 x8_1 ∧ v9 = .int .i64 x9_1 ∧ v14 = .int .i64 x14_1 ∧ Aside0 (xdiff_lcs_lcs_toDiffs.l0 kq a1 a2 x7_1 x8_1 x9_1 l0 (l0.length : Int) x14_1 = some r) ∧ Aside0 (kq ≤ k) ∧ Aside0 (Kd.R k64 64 w' w.heap.size (fun _ => True) v7 x7_1) ∧ Aside0 (Below w.heap.size w w'))
  case atStart => exact ⟨(([] : List (S64))), (0), (0), (0), (by first | rfl | (simp; done) | (simp [*]; done)), (by first | rfl | (simp; done) | (simp [*]; done)), (by first | rfl | (simp; done) | (simp [*]; done)), H', ⟨Nat.le_refl _⟩, ⟨by first | exact Kd.R_nil _ _ _ _ _ | exact Kd.N_nil _ _ _ _ _ | exact Kd.V_nil _ _ _ _ _ | exact Kd.Q_nil _ _ _ _ _ | exact Kd.S_nil _ _ _ _ _⟩, ⟨by repeat (first | (with_reducible first | exact HB.out | apply below_alloc | apply pw_below_drewN | apply below_drew1) | exact HB.out)⟩⟩
  case round =>
    clear H'
    try clear p2
    obtain ⟨x7_1, x8_1, x9_1, x14_1, rfl, rfl, rfl, HA, HK1, HO_7, HB⟩ := hrel
    cases gk with
    | zero => exact absurd HA.out (by simp [xdiff_lcs_lcs_toDiffs.l0])
    | succ k1 =>
      have H := HA.out
      clear HA
      simp only [xdiff_lcs_lcs_toDiffs.l0] at H
      by_cases c4 : x14_1 < (l0.length : Int)
      · rw [if_pos c4] at H
        have c4b0 : decide (x14_1 < (l0.length : Int)) = true := decide_eq_true c4
        clear c4
        by_cases c5 : 0 ≤ x14_1
        · rw [if_pos c5] at H
          have c5b0 : decide (0 ≤ x14_1) = true := decide_eq_true c5
          clear c5
          by_cases c6 : x14_1 < (l0.length : Int)
          · rw [if_pos c6] at H
            have c6b0 : decide (x14_1 < (l0.length : Int)) = true := decide_eq_true c6
            clear c6
            by_cases c7 : x8_1 < ((rd_T76 l0 x14_1).f0)
            · rw [if_pos c7] at H
              have c7b0 : decide (x8_1 < ((rd_T76 l0 x14_1).f0)) = true := decide_eq_true c7
              clear c7
              by_cases c8 : x7_1.length < 4398046511104
              · rw [if_pos c8] at H
                have LMc8 := Aside0.mk c8
                clear c8
                obtain ⟨y104, hy104⟩ : ∃ y_ : List (S64), y_ = (x7_1 ++ [(⟨x8_1, (rd_T76 l0 x14_1).f0, x9_1, (rd_T76 l0 x14_1).f1⟩ : S64)]) := ⟨_, rfl⟩
                replace H : (xdiff_lcs_lcs_toDiffs.l0 k1 a1 a2 y104 (wrap64 (((rd_T76 l0 x14_1).f0) + ((rd_T76 l0 x14_1).f2))) (wrap64 (((rd_T76 l0 x14_1).f1) + ((rd_T76 l0 x14_1).f2))) l0 (l0.length : Int) (wrap64 (x14_1 + 1))) = some r := by first | (rw [hy104]; with_reducible exact H) | (have H2_ := (Option.bind_some _ _).symm.trans H; rw [hy104]; with_reducible exact H2_) | (have H2_ := (Option.bind_some _ _).symm.trans H; with_reducible exact H2_) | with_reducible exact H | (rw [hy104]; exact H) | exact H
                have Ny104 := Aside0.mk hy104
                clear hy104
                have H' := Aside0.mk H
                clear H
                have p102 : 0 ≤ (x14_1 : Int) := of_decide_eq_true (by first | (with_reducible assumption) | assumption)
                have q102 : x14_1 < (l0.length : Int) := of_decide_eq_true (by first | (with_reducible assumption) | assumption)
                obtain ⟨ad102, e102, hx102_0, hx102_1, hx102_2⟩ := at_T76 HR0.out x14_1 p102 q102
                cases e102
                replace hx102_0 := (HB.out.cell (World.block_lt_of_cell? w _ hx102_0)).trans hx102_0
                replace hx102_1 := (HB.out.cell (World.block_lt_of_cell? w _ hx102_1)).trans hx102_1
                replace hx102_2 := (HB.out.cell (World.block_lt_of_cell? w _ hx102_2)).trans hx102_2
                replace p102 := eq_true p102
                replace q102 := eq_true q102
                go_wp2_with (first | ((with_reducible refine gate_dst (N := 11) rfl ?_); refine box_event ?hg (N := 11) ?hd (cs := #[.int .i64 0, .int .i64 0, .int .i64 0]) (t := 76) ?hr ?_; (case hd => rfl); (case hg => rfl); (case hr => first | (go_simp; done) | (go_simp; rfl)); intro gb103 hg w9 hbox hb; have n0_ := Aside0.mk (Kd.R_below (by (with_reducible repeat (first | apply Kd.R_alloc | apply Kd.R_drewN | apply Kd.R_drew)); exact HO_7.out) hb); have n1_ := Aside0.mk (below_step (by repeat (first | (with_reducible first | exact HB.out | apply below_alloc | apply pw_below_drewN | apply below_drew1) | exact HB.out)) hb); have n2_ := Aside0.mk (hbox); have n3_ := Aside0.mk ((by rw [hg]; exact (below_size (by repeat (first | (with_reducible first | exact HB.out | apply below_alloc | apply pw_below_drewN | apply below_drew1) | exact HB.out))) : w.heap.size ≤ gb103)); have n4_ := Aside0.mk ((by rw [hg]; exact (below_size (by repeat (first | (with_reducible first | exact HB.out | apply below_alloc | apply pw_below_drewN | apply below_drew1) | exact HB.out))) : w.heap.size ≤ gb103)); clear HO_7; clear HB; have HO_7 := n0_; have HB := n1_; have BK103 := n2_; have GW103 := n3_; have GE103 := n4_; clear n0_ n1_ n2_ n3_ n4_; clear hb hbox hg; have hcz10_0 : w9.cell? ⟨gb103, 0, none⟩ = some (.int .i64 0) := (blk_cell BK103.out 0).trans rfl; have hcz10_1 : w9.cell? ⟨gb103, 1, none⟩ = some (.int .i64 0) := (blk_cell BK103.out 1).trans rfl; have hcz10_2 : w9.cell? ⟨gb103, 2, none⟩ = some (.int .i64 0) := (blk_cell BK103.out 2).trans rfl; have hfz10_0 := blk_frozen BK103.out 0; have hfz10_1 := blk_frozen BK103.out 1; have hfz10_2 := blk_frozen BK103.out 2) | ((with_reducible refine gate_builtin (b := .append) (xs := #[.tmp 28, .tmp 36]) rfl ?_); at_builtin; refine Kd.R_append k64 (w0 := w) w.heap.size rfl (.tmp 28) (.tmp 36) 49 64 (.agg #[(.int .i64 0), (.int .i64 0), (.int .i64 0), (.int .i64 0)]) 32 rfl Try.underlying49 info64 rfl (by decide) (by omega) u7 x7_1 (⟨x8_1, (rd_T76 l0 x14_1).f0, x9_1, (rd_T76 l0 x14_1).f1⟩ : S64) [.int .i64 x8_1, .int .i64 ((rd_T76 l0 x14_1).f0), .int .i64 x9_1, .int .i64 ((rd_T76 l0 x14_1).f1)] (fun _ => True) (fun _ => False) rfl (by first | (go_simp; done) | (go_simp; rfl)) ?aP (fun _ hk => hk.elim) ?aF ?aO ?aB ?aS ?aL ?_; (case aP => exact k64_mkM _ _ _ (⟨x8_1, (rd_T76 l0 x14_1).f0, x9_1, (rd_T76 l0 x14_1).f1⟩ : S64)); (case aB => exact (by repeat (first | (with_reducible first | exact HB.out | apply below_alloc | apply pw_below_drewN | apply below_drew1 | refine below_set ?_ GE103.out) | exact HB.out))); (case aF => exact (fun _ _ => trivial)); (case aO => exact (by (with_reducible repeat (first | apply Kd.R_alloc | apply Kd.R_drewN | apply Kd.R_drew)); exact Kd.R_mono (Kd.R_far (p := ⟨gb103, 2, none⟩) (Kd.R_far (p := ⟨gb103, 1, none⟩) (Kd.R_far (p := ⟨gb103, 0, none⟩) (Kd.R_types HO_7.out BK103.out (by decide)) (fun _ hk => hk.2) (.int .i64 ((rd_T76 l0 x14_1).f0))) (fun _ hk => hk.2) (.int .i64 ((rd_T76 l0 x14_1).f1))) (fun _ hk => hk.2) (.int .i64 ((rd_T76 l0 x14_1).f2))) (fun _ hk => trivial))); (case aS => exact (below_size (by repeat (first | (with_reducible first | exact HB.out | apply below_alloc | apply pw_below_drewN | apply below_drew1 | refine below_set ?_ GE103.out) | exact HB.out)))); (case aL => have := LMc8.out; omega); intro v105 w11 ho hb hg hat; rw [← Ny104.out] at ho; have n0_ := Aside0.mk (blk_grown (g := gb103) (o := .cells #[.int .i64 ((rd_T76 l0 x14_1).f0), .int .i64 ((rd_T76 l0 x14_1).f1), .int .i64 ((rd_T76 l0 x14_1).f2)] 76 (0, 0)) (by (with_reducible repeat (first | refine blk_drewN ?_ _ | refine blk_drew ?_ | refine blk_alloc ?_ _)); refine blk_put (cs := #[.int .i64 ((rd_T76 l0 x14_1).f0), .int .i64 ((rd_T76 l0 x14_1).f1), .int .i64 0]) ?_ 2 _ rfl; (with_reducible repeat (first | refine blk_drewN ?_ _ | refine blk_drew ?_ | refine blk_alloc ?_ _)); refine blk_put (cs := #[.int .i64 ((rd_T76 l0 x14_1).f0), .int .i64 0, .int .i64 0]) ?_ 1 _ rfl; (with_reducible repeat (first | refine blk_drewN ?_ _ | refine blk_drew ?_ | refine blk_alloc ?_ _)); refine blk_put (cs := #[.int .i64 0, .int .i64 0, .int .i64 0]) ?_ 0 _ rfl; (with_reducible repeat (first | refine blk_drewN ?_ _ | refine blk_drew ?_ | refine blk_alloc ?_ _)); exact BK103.out) hg (Kd.R_ne HO_7.out BK103.out (by decide))); have n1_ := Aside0.mk (hb); have n2_ := Aside0.mk (ho); clear BK103; clear HB; clear HO_7; have BK103 := n0_; have HB := n1_; have HO106 := n2_; clear n0_ n1_ n2_; clear ho hb hg hat; have hcz12_0 : w11.cell? ⟨gb103, 0, none⟩ = some (.int .i64 ((rd_T76 l0 x14_1).f0)) := (blk_cell BK103.out 0).trans rfl; have hcz12_1 : w11.cell? ⟨gb103, 1, none⟩ = some (.int .i64 ((rd_T76 l0 x14_1).f1)) := (blk_cell BK103.out 1).trans rfl; have hcz12_2 : w11.cell? ⟨gb103, 2, none⟩ = some (.int .i64 ((rd_T76 l0 x14_1).f2)) := (blk_cell BK103.out 2).trans rfl; have hfz12_0 := blk_frozen BK103.out 0; have hfz12_1 := blk_frozen BK103.out 1; have hfz12_2 := blk_frozen BK103.out 2))
                go_roundg k1
                case measure => have := HK1.out; omega
                case rel => exact ⟨(y104), (wrap64 (((rd_T76 l0 x14_1).f0) + ((rd_T76 l0 x14_1).f2))), (wrap64 (((rd_T76 l0 x14_1).f1) + ((rd_T76 l0 x14_1).f2))), (wrap64 (x14_1 + 1)), (by first | rfl | (simp; done) | (simp [*]; done)), (by first | rfl | (simp; done) | (simp [*]; done)), (by first | rfl | (simp; done) | (simp [*]; done)), H', ⟨by have := HK1.out; omega⟩, ⟨by (with_reducible repeat (first | apply Kd.R_alloc | apply Kd.R_drewN | apply Kd.R_drew)); exact HO106.out⟩, ⟨by repeat (first | (with_reducible first | exact HB.out | apply below_alloc | apply pw_below_drewN | apply below_drew1 | refine below_set ?_ GE103.out) | exact HB.out)⟩⟩
              · rw [if_neg c8] at H
                exact absurd H (by simp)
            · rw [if_neg c7] at H
              have c7b0 : decide (x8_1 < ((rd_T76 l0 x14_1).f0)) = false := decide_eq_false c7
              clear c7
              by_cases c13 : x9_1 < ((rd_T76 l0 x14_1).f1)
              · rw [if_pos c13] at H
                have c13b0 : decide (x9_1 < ((rd_T76 l0 x14_1).f1)) = true := decide_eq_true c13
                clear c13
                by_cases c14 : x7_1.length < 4398046511104
                · rw [if_pos c14] at H
                  have LMc14 := Aside0.mk c14
                  clear c14
                  obtain ⟨y107, hy107⟩ : ∃ y_ : List (S64), y_ = (x7_1 ++ [(⟨x8_1, (rd_T76 l0 x14_1).f0, x9_1, (rd_T76 l0 x14_1).f1⟩ : S64)]) := ⟨_, rfl⟩
                  replace H : (xdiff_lcs_lcs_toDiffs.l0 k1 a1 a2 y107 (wrap64 (((rd_T76 l0 x14_1).f0) + ((rd_T76 l0 x14_1).f2))) (wrap64 (((rd_T76 l0 x14_1).f1) + ((rd_T76 l0 x14_1).f2))) l0 (l0.length : Int) (wrap64 (x14_1 + 1))) = some r := by first | (rw [hy107]; with_reducible exact H) | (have H2_ := (Option.bind_some _ _).symm.trans H; rw [hy107]; with_reducible exact H2_) | (have H2_ := (Option.bind_some _ _).symm.trans H; with_reducible exact H2_) | with_reducible exact H | (rw [hy107]; exact H) | exact H
                  have Ny107 := Aside0.mk hy107
                  clear hy107
                  have H' := Aside0.mk H
                  clear H
                  have p102 : 0 ≤ (x14_1 : Int) := of_decide_eq_true (by first | (with_reducible assumption) | assumption)
                  have q102 : x14_1 < (l0.length : Int) := of_decide_eq_true (by first | (with_reducible assumption) | assumption)
                  obtain ⟨ad102, e102, hx102_0, hx102_1, hx102_2⟩ := at_T76 HR0.out x14_1 p102 q102
                  cases e102
                  replace hx102_0 := (HB.out.cell (World.block_lt_of_cell? w _ hx102_0)).trans hx102_0
                  replace hx102_1 := (HB.out.cell (World.block_lt_of_cell? w _ hx102_1)).trans hx102_1
                  replace hx102_2 := (HB.out.cell (World.block_lt_of_cell? w _ hx102_2)).trans hx102_2
                  replace p102 := eq_true p102
                  replace q102 := eq_true q102
                  go_wp2_with (first | ((with_reducible refine gate_dst (N := 11) rfl ?_); refine box_event ?hg (N := 11) ?hd (cs := #[.int .i64 0, .int .i64 0, .int .i64 0]) (t := 76) ?hr ?_; (case hd => rfl); (case hg => rfl); (case hr => first | (go_simp; done) | (go_simp; rfl)); intro gb103 hg w15 hbox hb; have n0_ := Aside0.mk (Kd.R_below (by (with_reducible repeat (first | apply Kd.R_alloc | apply Kd.R_drewN | apply Kd.R_drew)); exact HO_7.out) hb); have n1_ := Aside0.mk (below_step (by repeat (first | (with_reducible first | exact HB.out | apply below_alloc | apply pw_below_drewN | apply below_drew1) | exact HB.out)) hb); have n2_ := Aside0.mk (hbox); have n3_ := Aside0.mk ((by rw [hg]; exact (below_size (by repeat (first | (with_reducible first | exact HB.out | apply below_alloc | apply pw_below_drewN | apply below_drew1) | exact HB.out))) : w.heap.size ≤ gb103)); have n4_ := Aside0.mk ((by rw [hg]; exact (below_size (by repeat (first | (with_reducible first | exact HB.out | apply below_alloc | apply pw_below_drewN | apply below_drew1) | exact HB.out))) : w.heap.size ≤ gb103)); clear HO_7; clear HB; have HO_7 := n0_; have HB := n1_; have BK103 := n2_; have GW103 := n3_; have GE103 := n4_; clear n0_ n1_ n2_ n3_ n4_; clear hb hbox hg; have hcz16_0 : w15.cell? ⟨gb103, 0, none⟩ = some (.int .i64 0) := (blk_cell BK103.out 0).trans rfl; have hcz16_1 : w15.cell? ⟨gb103, 1, none⟩ = some (.int .i64 0) := (blk_cell BK103.out 1).trans rfl; have hcz16_2 : w15.cell? ⟨gb103, 2, none⟩ = some (.int .i64 0) := (blk_cell BK103.out 2).trans rfl; have hfz16_0 := blk_frozen BK103.out 0; have hfz16_1 := blk_frozen BK103.out 1; have hfz16_2 := blk_frozen BK103.out 2) | ((with_reducible refine gate_builtin (b := .append) (xs := #[.tmp 28, .tmp 36]) rfl ?_); at_builtin; refine Kd.R_append k64 (w0 := w) w.heap.size rfl (.tmp 28) (.tmp 36) 49 64 (.agg #[(.int .i64 0), (.int .i64 0), (.int .i64 0), (.int .i64 0)]) 32 rfl Try.underlying49 info64 rfl (by decide) (by omega) u7 x7_1 (⟨x8_1, (rd_T76 l0 x14_1).f0, x9_1, (rd_T76 l0 x14_1).f1⟩ : S64) [.int .i64 x8_1, .int .i64 ((rd_T76 l0 x14_1).f0), .int .i64 x9_1, .int .i64 ((rd_T76 l0 x14_1).f1)] (fun _ => True) (fun _ => False) rfl (by first | (go_simp; done) | (go_simp; rfl)) ?aP (fun _ hk => hk.elim) ?aF ?aO ?aB ?aS ?aL ?_; (case aP => exact k64_mkM _ _ _ (⟨x8_1, (rd_T76 l0 x14_1).f0, x9_1, (rd_T76 l0 x14_1).f1⟩ : S64)); (case aB => exact (by repeat (first | (with_reducible first | exact HB.out | apply below_alloc | apply pw_below_drewN | apply below_drew1 | refine below_set ?_ GE103.out) | exact HB.out))); (case aF => exact (fun _ _ => trivial)); (case aO => exact (by (with_reducible repeat (first | apply Kd.R_alloc | apply Kd.R_drewN | apply Kd.R_drew)); exact Kd.R_mono (Kd.R_far (p := ⟨gb103, 2, none⟩) (Kd.R_far (p := ⟨gb103, 1, none⟩) (Kd.R_far (p := ⟨gb103, 0, none⟩) (Kd.R_types HO_7.out BK103.out (by decide)) (fun _ hk => hk.2) (.int .i64 ((rd_T76 l0 x14_1).f0))) (fun _ hk => hk.2) (.int .i64 ((rd_T76 l0 x14_1).f1))) (fun _ hk => hk.2) (.int .i64 ((rd_T76 l0 x14_1).f2))) (fun _ hk => trivial))); (case aS => exact (below_size (by repeat (first | (with_reducible first | exact HB.out | apply below_alloc | apply pw_below_drewN | apply below_drew1 | refine below_set ?_ GE103.out) | exact HB.out)))); (case aL => have := LMc14.out; omega); intro v108 w17 ho hb hg hat; rw [← Ny107.out] at ho; have n0_ := Aside0.mk (blk_grown (g := gb103) (o := .cells #[.int .i64 ((rd_T76 l0 x14_1).f0), .int .i64 ((rd_T76 l0 x14_1).f1), .int .i64 ((rd_T76 l0 x14_1).f2)] 76 (0, 0)) (by (with_reducible repeat (first | refine blk_drewN ?_ _ | refine blk_drew ?_ | refine blk_alloc ?_ _)); refine blk_put (cs := #[.int .i64 ((rd_T76 l0 x14_1).f0), .int .i64 ((rd_T76 l0 x14_1).f1), .int .i64 0]) ?_ 2 _ rfl; (with_reducible repeat (first | refine blk_drewN ?_ _ | refine blk_drew ?_ | refine blk_alloc ?_ _)); refine blk_put (cs := #[.int .i64 ((rd_T76 l0 x14_1).f0), .int .i64 0, .int .i64 0]) ?_ 1 _ rfl; (with_reducible repeat (first | refine blk_drewN ?_ _ | refine blk_drew ?_ | refine blk_alloc ?_ _)); refine blk_put (cs := #[.int .i64 0, .int .i64 0, .int .i64 0]) ?_ 0 _ rfl; (with_reducible repeat (first | refine blk_drewN ?_ _ | refine blk_drew ?_ | refine blk_alloc ?_ _)); exact BK103.out) hg (Kd.R_ne HO_7.out BK103.out (by decide))); have n1_ := Aside0.mk (hb); have n2_ := Aside0.mk (ho); clear BK103; clear HB; clear HO_7; have BK103 := n0_; have HB := n1_; have HO109 := n2_; clear n0_ n1_ n2_; clear ho hb hg hat; have hcz18_0 : w17.cell? ⟨gb103, 0, none⟩ = some (.int .i64 ((rd_T76 l0 x14_1).f0)) := (blk_cell BK103.out 0).trans rfl; have hcz18_1 : w17.cell? ⟨gb103, 1, none⟩ = some (.int .i64 ((rd_T76 l0 x14_1).f1)) := (blk_cell BK103.out 1).trans rfl; have hcz18_2 : w17.cell? ⟨gb103, 2, none⟩ = some (.int .i64 ((rd_T76 l0 x14_1).f2)) := (blk_cell BK103.out 2).trans rfl; have hfz18_0 := blk_frozen BK103.out 0; have hfz18_1 := blk_frozen BK103.out 1; have hfz18_2 := blk_frozen BK103.out 2))
                  go_roundg k1
                  case measure => have := HK1.out; omega
                  case rel => exact ⟨(y107), (wrap64 (((rd_T76 l0 x14_1).f0) + ((rd_T76 l0 x14_1).f2))), (wrap64 (((rd_T76 l0 x14_1).f1) + ((rd_T76 l0 x14_1).f2))), (wrap64 (x14_1 + 1)), (by first | rfl | (simp; done) | (simp [*]; done)), (by first | rfl | (simp; done) | (simp [*]; done)), (by first | rfl | (simp; done) | (simp [*]; done)), H', ⟨by have := HK1.out; omega⟩, ⟨by (with_reducible repeat (first | apply Kd.R_alloc | apply Kd.R_drewN | apply Kd.R_drew)); exact HO109.out⟩, ⟨by repeat (first | (with_reducible first | exact HB.out | apply below_alloc | apply pw_below_drewN | apply below_drew1 | refine below_set ?_ GE103.out) | exact HB.out)⟩⟩
                · rw [if_neg c14] at H
                  exact absurd H (by simp)
              · rw [if_neg c13] at H
                have c13b0 : decide (x9_1 < ((rd_T76 l0 x14_1).f1)) = false := decide_eq_false c13
                clear c13
                have H' := Aside0.mk H
                clear H
                have p102 : 0 ≤ (x14_1 : Int) := of_decide_eq_true (by first | (with_reducible assumption) | assumption)
                have q102 : x14_1 < (l0.length : Int) := of_decide_eq_true (by first | (with_reducible assumption) | assumption)
                obtain ⟨ad102, e102, hx102_0, hx102_1, hx102_2⟩ := at_T76 HR0.out x14_1 p102 q102
                cases e102
                replace hx102_0 := (HB.out.cell (World.block_lt_of_cell? w _ hx102_0)).trans hx102_0
                replace hx102_1 := (HB.out.cell (World.block_lt_of_cell? w _ hx102_1)).trans hx102_1
                replace hx102_2 := (HB.out.cell (World.block_lt_of_cell? w _ hx102_2)).trans hx102_2
                replace p102 := eq_true p102
                replace q102 := eq_true q102
                go_wp2_with (first | ((with_reducible refine gate_dst (N := 11) rfl ?_); refine box_event ?hg (N := 11) ?hd (cs := #[.int .i64 0, .int .i64 0, .int .i64 0]) (t := 76) ?hr ?_; (case hd => rfl); (case hg => rfl); (case hr => first | (go_simp; done) | (go_simp; rfl)); intro gb103 hg w19 hbox hb; have n0_ := Aside0.mk (Kd.R_below (by (with_reducible repeat (first | apply Kd.R_alloc | apply Kd.R_drewN | apply Kd.R_drew)); exact HO_7.out) hb); have n1_ := Aside0.mk (below_step (by repeat (first | (with_reducible first | exact HB.out | apply below_alloc | apply pw_below_drewN | apply below_drew1) | exact HB.out)) hb); have n2_ := Aside0.mk (hbox); have n3_ := Aside0.mk ((by rw [hg]; exact (below_size (by repeat (first | (with_reducible first | exact HB.out | apply below_alloc | apply pw_below_drewN | apply below_drew1) | exact HB.out))) : w.heap.size ≤ gb103)); have n4_ := Aside0.mk ((by rw [hg]; exact (below_size (by repeat (first | (with_reducible first | exact HB.out | apply below_alloc | apply pw_below_drewN | apply below_drew1) | exact HB.out))) : w.heap.size ≤ gb103)); clear HO_7; clear HB; have HO_7 := n0_; have HB := n1_; have BK103 := n2_; have GW103 := n3_; have GE103 := n4_; clear n0_ n1_ n2_ n3_ n4_; clear hb hbox hg; have hcz20_0 : w19.cell? ⟨gb103, 0, none⟩ = some (.int .i64 0) := (blk_cell BK103.out 0).trans rfl; have hcz20_1 : w19.cell? ⟨gb103, 1, none⟩ = some (.int .i64 0) := (blk_cell BK103.out 1).trans rfl; have hcz20_2 : w19.cell? ⟨gb103, 2, none⟩ = some (.int .i64 0) := (blk_cell BK103.out 2).trans rfl; have hfz20_0 := blk_frozen BK103.out 0; have hfz20_1 := blk_frozen BK103.out 1; have hfz20_2 := blk_frozen BK103.out 2))
                go_roundg k1
                case measure => have := HK1.out; omega
                case rel => exact ⟨(x7_1), (wrap64 (((rd_T76 l0 x14_1).f0) + ((rd_T76 l0 x14_1).f2))), (wrap64 (((rd_T76 l0 x14_1).f1) + ((rd_T76 l0 x14_1).f2))), (wrap64 (x14_1 + 1)), (by first | rfl | (simp; done) | (simp [*]; done)), (by first | rfl | (simp; done) | (simp [*]; done)), (by first | rfl | (simp; done) | (simp [*]; done)), H', ⟨by have := HK1.out; omega⟩, ⟨by (with_reducible repeat (first | apply Kd.R_alloc | apply Kd.R_drewN | apply Kd.R_drew)); exact Kd.R_mono (Kd.R_far (p := ⟨gb103, 2, none⟩) (Kd.R_far (p := ⟨gb103, 1, none⟩) (Kd.R_far (p := ⟨gb103, 0, none⟩) (Kd.R_types HO_7.out BK103.out (by decide)) (fun _ hk => hk.2) (.int .i64 ((rd_T76 l0 x14_1).f0))) (fun _ hk => hk.2) (.int .i64 ((rd_T76 l0 x14_1).f1))) (fun _ hk => hk.2) (.int .i64 ((rd_T76 l0 x14_1).f2))) (fun _ hk => trivial)⟩, ⟨by repeat (first | (with_reducible first | exact HB.out | apply below_alloc | apply pw_below_drewN | apply below_drew1 | refine below_set ?_ GE103.out) | exact HB.out)⟩⟩
          · rw [if_neg c6] at H
            exact absurd H (by simp)
        · rw [if_neg c5] at H
          exact absurd H (by simp)
      · rw [if_neg c4] at H
        have c4b0 : decide (x14_1 < (l0.length : Int)) = false := decide_eq_false c4
        clear c4
        by_cases c21 : x8_1 < a1
        · rw [if_pos c21] at H
          have c21b0 : decide (x8_1 < a1) = true := decide_eq_true c21
          clear c21
          by_cases c22 : x7_1.length < 4398046511104
          · rw [if_pos c22] at H
            have LMc22 := Aside0.mk c22
            clear c22
            obtain ⟨y110, hy110⟩ : ∃ y_ : List (S64), y_ = (x7_1 ++ [(⟨x8_1, a1, x9_1, a2⟩ : S64)]) := ⟨_, rfl⟩
            replace H : (some y110) = some r := by first | (rw [hy110]; with_reducible exact H) | (have H2_ := (Option.bind_some _ _).symm.trans H; rw [hy110]; with_reducible exact H2_) | (have H2_ := (Option.bind_some _ _).symm.trans H; with_reducible exact H2_) | with_reducible exact H | (rw [hy110]; exact H) | exact H
            have Ny110 := Aside0.mk hy110
            clear hy110
            obtain rfl := Option.some.inj H
            go_wp2_with (first | ((with_reducible refine gate_builtin (b := .append) (xs := #[.tmp 57, .tmp 63]) rfl ?_); at_builtin; refine Kd.R_append k64 (w0 := w) w.heap.size rfl (.tmp 57) (.tmp 63) 49 64 (.agg #[(.int .i64 0), (.int .i64 0), (.int .i64 0), (.int .i64 0)]) 32 rfl Try.underlying49 info64 rfl (by decide) (by omega) u7 x7_1 (⟨x8_1, a1, x9_1, a2⟩ : S64) [.int .i64 x8_1, .int .i64 a1, .int .i64 x9_1, .int .i64 a2] (fun _ => True) (fun _ => False) rfl rfl ?aP (fun _ hk => hk.elim) ?aF ?aO ?aB ?aS ?aL ?_; (case aP => exact k64_mkM _ _ _ (⟨x8_1, a1, x9_1, a2⟩ : S64)); (case aB => exact (by repeat (first | (with_reducible first | exact HB.out | apply below_alloc | apply pw_below_drewN | apply below_drew1) | exact HB.out))); (case aF => exact (fun _ _ => trivial)); (case aO => exact (by (with_reducible repeat (first | apply Kd.R_alloc | apply Kd.R_drewN | apply Kd.R_drew)); exact HO_7.out)); (case aS => exact (below_size (by repeat (first | (with_reducible first | exact HB.out | apply below_alloc | apply pw_below_drewN | apply below_drew1) | exact HB.out)))); (case aL => have := LMc22.out; omega); intro v111 w23 ho hb hg hat; rw [← Ny110.out] at ho; have n0_ := Aside0.mk (hb); have n1_ := Aside0.mk (ho); clear HB; clear HO_7; have HB := n0_; have HO112 := n1_; clear n0_ n1_; clear ho hb hg hat))
            go_ret
            exact ⟨_, by first | rfl | (simp [errW_none, errW_some] <;> rfl) | (simp [*, errW_none, errW_some] <;> rfl), by (with_reducible repeat (first | apply Kd.R_alloc | apply Kd.R_drewN | apply Kd.R_drew)); exact HO112.out, by repeat (first | (with_reducible first | exact HB.out | apply below_alloc | apply pw_below_drewN | apply below_drew1) | exact HB.out)⟩
          · rw [if_neg c22] at H
            exact absurd H (by simp)
        · rw [if_neg c21] at H
          have c21b0 : decide (x8_1 < a1) = false := decide_eq_false c21
          clear c21
          by_cases c24 : x9_1 < a2
          · rw [if_pos c24] at H
            have c24b0 : decide (x9_1 < a2) = true := decide_eq_true c24
            clear c24
            by_cases c25 : x7_1.length < 4398046511104
            · rw [if_pos c25] at H
              have LMc25 := Aside0.mk c25
              clear c25
              obtain ⟨y113, hy113⟩ : ∃ y_ : List (S64), y_ = (x7_1 ++ [(⟨x8_1, a1, x9_1, a2⟩ : S64)]) := ⟨_, rfl⟩
              replace H : (some y113) = some r := by first | (rw [hy113]; with_reducible exact H) | (have H2_ := (Option.bind_some _ _).symm.trans H; rw [hy113]; with_reducible exact H2_) | (have H2_ := (Option.bind_some _ _).symm.trans H; with_reducible exact H2_) | with_reducible exact H | (rw [hy113]; exact H) | exact H
              have Ny113 := Aside0.mk hy113
              clear hy113
              obtain rfl := Option.some.inj H
              go_wp2_with (first | ((with_reducible refine gate_builtin (b := .append) (xs := #[.tmp 57, .tmp 63]) rfl ?_); at_builtin; refine Kd.R_append k64 (w0 := w) w.heap.size rfl (.tmp 57) (.tmp 63) 49 64 (.agg #[(.int .i64 0), (.int .i64 0), (.int .i64 0), (.int .i64 0)]) 32 rfl Try.underlying49 info64 rfl (by decide) (by omega) u7 x7_1 (⟨x8_1, a1, x9_1, a2⟩ : S64) [.int .i64 x8_1, .int .i64 a1, .int .i64 x9_1, .int .i64 a2] (fun _ => True) (fun _ => False) rfl rfl ?aP (fun _ hk => hk.elim) ?aF ?aO ?aB ?aS ?aL ?_; (case aP => exact k64_mkM _ _ _ (⟨x8_1, a1, x9_1, a2⟩ : S64)); (case aB => exact (by repeat (first | (with_reducible first | exact HB.out | apply below_alloc | apply pw_below_drewN | apply below_drew1) | exact HB.out))); (case aF => exact (fun _ _ => trivial)); (case aO => exact (by (with_reducible repeat (first | apply Kd.R_alloc | apply Kd.R_drewN | apply Kd.R_drew)); exact HO_7.out)); (case aS => exact (below_size (by repeat (first | (with_reducible first | exact HB.out | apply below_alloc | apply pw_below_drewN | apply below_drew1) | exact HB.out)))); (case aL => have := LMc25.out; omega); intro v114 w26 ho hb hg hat; rw [← Ny113.out] at ho; have n0_ := Aside0.mk (hb); have n1_ := Aside0.mk (ho); clear HB; clear HO_7; have HB := n0_; have HO115 := n1_; clear n0_ n1_; clear ho hb hg hat))
              go_ret
              exact ⟨_, by first | rfl | (simp [errW_none, errW_some] <;> rfl) | (simp [*, errW_none, errW_some] <;> rfl), by (with_reducible repeat (first | apply Kd.R_alloc | apply Kd.R_drewN | apply Kd.R_drew)); exact HO115.out, by repeat (first | (with_reducible first | exact HB.out | apply below_alloc | apply pw_below_drewN | apply below_drew1) | exact HB.out)⟩
            · rw [if_neg c25] at H
              exact absurd H (by simp)
          · rw [if_neg c24] at H
            have c24b0 : decide (x9_1 < a2) = false := decide_eq_false c24
            clear c24
            obtain rfl := Option.some.inj H
            go_wp2
            go_ret
            exact ⟨_, by first | rfl | (simp [errW_none, errW_some] <;> rfl) | (simp [*, errW_none, errW_some] <;> rfl), by (with_reducible repeat (first | apply Kd.R_alloc | apply Kd.R_drewN | apply Kd.R_drew)); exact HO_7.out, by repeat (first | (with_reducible first | exact HB.out | apply below_alloc | apply pw_below_drewN | apply below_drew1) | exact HB.out)⟩

-- NOT PRINTED: function 31 (xdiff_lcs_compute)

-- NOT PRINTED: function 28 (xdiff_lcs_road)

-- NOT PRINTED: function 35 (xdiff_lcs_editGraph_lookBackward)

-- NOT PRINTED: function 46 (xdiff_lcs_checkDK)

-- NOT PRINTED: function 41 (xdiff_lcs_label_set)

-- NOT PRINTED: function 32 (xdiff_lcs_editGraph_setBackward)

/-! ### by hand elsewhere -/

-- NOT PRINTED: function 34 (xdiff_lcs_editGraph_getBackward)

/-! ### by hand elsewhere -/

-- NOT PRINTED: function 44 (xdiff_lcs_lcs_append)

-- NOT PRINTED: function 36 (xdiff_lcs_editGraph_backwardlcs)

-- NOT PRINTED: function 33 (xdiff_lcs_editGraph_bdone)

-- NOT PRINTED: function 29 (xdiff_lcs_backward)

-- NOT PRINTED: function 24 (xdiff_lcs_Backward)

/-! ### impl_parts: function 25 -/
def impl_parts.l0 : Nat → List (S58) → List (S64) → Int → Int → Option ((List (S58)))
  | 0, _, _, _, _ => none
  | k + 1, x3, x7, x8, x9 => if x9 < x8 then (if 0 ≤ x9 then (if x9 < (x7.length : Int) then (if x3.length < 4398046511104 then (impl_parts.l0 k (x3 ++ [(⟨(rd_T64 x7 x9).f0, (rd_T64 x7 x9).f1, (rd_T64 x7 x9).f2, (rd_T64 x7 x9).f3⟩ : S58)]) x7 x8 (wrap64 (x9 + 1))) else (none)) else (none)) else (none)) else (some x3)
def impl_parts.f (k : Nat) (l0 : List (S64)) : Option ((List (S58))) := impl_parts.l0 k (([] : List (S58))) l0 (l0.length : Int) 0
theorem impl_parts.mono_l : ∀ k, (∀ y0 y1 y2 y3, LeO (impl_parts.l0 k y0 y1 y2 y3) (impl_parts.l0 (k + 1) y0 y1 y2 y3))
  | 0 => fun _ _ _ _ r h => by simp [impl_parts.l0] at h
  | k + 1 => by
    have ih0 := impl_parts.mono_l k
    · intro y0 y1 y2 y3
      unfold impl_parts.l0
      repeat' first
      | (with_reducible exact ih0 _ _ _ _)
      | (with_reducible exact LeO.refl _)
      | (with_reducible exact LeO.none _)
      | (with_reducible refine LeO.ite ?_ ?_)
      | (with_reducible refine LeO.bind ?_ (fun _ => ?_))
      | exact ih0 _ _ _ _
      | exact LeO.none _
      | refine LeO.ite ?_ ?_
      | refine LeO.bind ?_ (fun _ => ?_)
theorem impl_parts.mono : ∀ a0 k, LeO (impl_parts.f k a0) (impl_parts.f (k + 1) a0) := by
  intro a0 k
  have ih0 := impl_parts.mono_l k
  unfold impl_parts.f
  repeat' first
      | (with_reducible exact ih0 _ _ _ _)
      | (with_reducible exact LeO.refl _)
      | (with_reducible exact LeO.none _)
      | (with_reducible refine LeO.ite ?_ ?_)
      | (with_reducible refine LeO.bind ?_ (fun _ => ?_))
      | exact ih0 _ _ _ _
      | exact LeO.none _
      | refine LeO.ite ?_ ?_
      | refine LeO.bind ?_ (fun _ => ?_)
set_option maxHeartbeats 8000000 in
set_option maxRecDepth 100000 in
theorem impl_parts.calls (k : Nat) (A0 : Option Addr) (c0 : Nat) (l0 : List (S64)) (r : List (S58)) (w : World) (hr0 : Kd.C k64 w A0 l0.length l0) (hc0 : l0.length ≤ c0) (h : impl_parts.f k l0 = some r) :
    Calls Try.prog 25 #[.slice A0 l0.length c0] w fun e w' => ∃ v0_ : Value, e = .returned (v0_) ∧ Kd.R k58 58 w' w.heap.size (fun _ => True) v0_ r ∧ Below w.heap.size w w' := by
  have hu64 := Try.underlying64
  have hu58 := Try.underlying58
  have HR0 := Aside0.mk hr0
  have HC0 := Aside0.mk hc0
  clear hr0 hc0
  have HB := Aside0.mk (Below.refl w.heap.size w)
  have H : (impl_parts.l0 k (([] : List (S58))) l0 (l0.length : Int) 0) = some r := h
  clear h
  obtain ⟨y117, hy117⟩ : ∃ y_ : List (S58), y_ = (([] : List (S58))) := ⟨_, rfl⟩
  replace H : (impl_parts.l0 k y117 l0 (l0.length : Int) 0) = some r := by first | (rw [hy117]; with_reducible exact H) | (have H2_ := (Option.bind_some _ _).symm.trans H; rw [hy117]; with_reducible exact H2_) | (have H2_ := (Option.bind_some _ _).symm.trans H; with_reducible exact H2_) | with_reducible exact H | (rw [hy117]; exact H) | exact H
  have Ny117 := Aside0.mk hy117
  clear hy117
  have H' := Aside0.mk H
  clear H
  go_enter Try.func25, Try.ntmps25
  go_wp2_with (first | ((with_reducible refine gate_dst (N := 6) rfl ?_); refine Kd.R_lit k58 _ 58 ?hg (N := 6) ?hd (xs := ([] : List (S58))) (inner := []) (ok := fun _ => True) (okp := fun _ => True) ?hr ?hp (fun _ hk => hk) trivial (Below.refl _ _) (Nat.le_refl _) (by simp) ?_; (case hd => rfl); (case hg => rfl); (case hr => first | (go_simp; done) | (go_simp; rfl)); (case hp => exact (Reps.none _ _)); intro v118 w2 ho3 hb hg_ hnew_; clear hg_ hnew_; (first | rw [← Ny117.out] at ho3 | (simp only [Int.reduceToNat] at ho3; rw [← Ny117.out] at ho3)); have n0_ := Aside0.mk (Kd.R_lower ho3 (below_size (by repeat (first | (with_reducible first | exact HB.out | apply below_alloc | apply pw_below_drewN | apply below_drew1) | exact HB.out)))); have n1_ := Aside0.mk (below_step (by repeat (first | (with_reducible first | exact HB.out | apply below_alloc | apply pw_below_drewN | apply below_drew1) | exact HB.out)) hb); clear HB; have HO119 := n0_; have HB := n1_; clear n0_ n1_; clear hb ho3))
  go_loopg [3, 9] k (fun kq v3 v9 w' => ∃ (x3_1 : List (S58)) (x9_1 : Int), v9 = .int .i64 x9_1 ∧ Aside0 (impl_parts.l0 kq x3_1 l0 (l0.length : Int) x9_1 = some r) ∧ Aside0 (kq ≤ k) ∧ Aside0 (Kd.R k58 58 w' w.heap.size (fun _ => True) v3 x3_1) ∧ Aside0 (Below w.heap.size w w'))
  case atStart => exact ⟨(y117), (0), (by first | rfl | (simp; done) | (simp [*]; done)), H', ⟨Nat.le_refl _⟩, ⟨by (with_reducible repeat (first | apply Kd.R_alloc | apply Kd.R_drewN | apply Kd.R_drew)); exact HO119.out⟩, ⟨by repeat (first | (with_reducible first | exact HB.out | apply below_alloc | apply pw_below_drewN | apply below_drew1) | exact HB.out)⟩⟩
  case round =>
    clear H'
    try clear c2
    try clear p2
    obtain ⟨x3_1, x9_1, rfl, HA, HK1, HO_3, HB⟩ := hrel
    cases gk with
    | zero => exact absurd HA.out (by simp [impl_parts.l0])
    | succ k1 =>
      have H := HA.out
      clear HA
      simp only [impl_parts.l0] at H
      by_cases c4 : x9_1 < (l0.length : Int)
      · rw [if_pos c4] at H
        have c4b0 : decide (x9_1 < (l0.length : Int)) = true := decide_eq_true c4
        clear c4
        by_cases c5 : 0 ≤ x9_1
        · rw [if_pos c5] at H
          have c5b0 : decide (0 ≤ x9_1) = true := decide_eq_true c5
          clear c5
          by_cases c6 : x9_1 < (l0.length : Int)
          · rw [if_pos c6] at H
            have c6b0 : decide (x9_1 < (l0.length : Int)) = true := decide_eq_true c6
            clear c6
            by_cases c7 : x3_1.length < 4398046511104
            · rw [if_pos c7] at H
              have LMc7 := Aside0.mk c7
              clear c7
              obtain ⟨y122, hy122⟩ : ∃ y_ : List (S58), y_ = (x3_1 ++ [(⟨(rd_T64 l0 x9_1).f0, (rd_T64 l0 x9_1).f1, (rd_T64 l0 x9_1).f2, (rd_T64 l0 x9_1).f3⟩ : S58)]) := ⟨_, rfl⟩
              replace H : (impl_parts.l0 k1 y122 l0 (l0.length : Int) (wrap64 (x9_1 + 1))) = some r := by first | (rw [hy122]; with_reducible exact H) | (have H2_ := (Option.bind_some _ _).symm.trans H; rw [hy122]; with_reducible exact H2_) | (have H2_ := (Option.bind_some _ _).symm.trans H; with_reducible exact H2_) | with_reducible exact H | (rw [hy122]; exact H) | exact H
              have Ny122 := Aside0.mk hy122
              clear hy122
              have H' := Aside0.mk H
              clear H
              have p120 : 0 ≤ (x9_1 : Int) := of_decide_eq_true (by first | (with_reducible assumption) | assumption)
              have q120 : x9_1 < (l0.length : Int) := of_decide_eq_true (by first | (with_reducible assumption) | assumption)
              obtain ⟨ad120, e120, hx120_0, hx120_1, hx120_2, hx120_3⟩ := at_T64 HR0.out x9_1 p120 q120
              cases e120
              replace hx120_0 := (HB.out.cell (World.block_lt_of_cell? w _ hx120_0)).trans hx120_0
              replace hx120_1 := (HB.out.cell (World.block_lt_of_cell? w _ hx120_1)).trans hx120_1
              replace hx120_2 := (HB.out.cell (World.block_lt_of_cell? w _ hx120_2)).trans hx120_2
              replace hx120_3 := (HB.out.cell (World.block_lt_of_cell? w _ hx120_3)).trans hx120_3
              replace p120 := eq_true p120
              replace q120 := eq_true q120
              go_wp2_with (first | ((with_reducible refine gate_dst (N := 5) rfl ?_); refine box_event ?hg (N := 5) ?hd (cs := #[.int .i64 0, .int .i64 0, .int .i64 0, .int .i64 0]) (t := 64) ?hr ?_; (case hd => rfl); (case hg => rfl); (case hr => first | (go_simp; done) | (go_simp; rfl)); intro gb121 hg w8 hbox hb; have n0_ := Aside0.mk (Kd.R_below (by (with_reducible repeat (first | apply Kd.R_alloc | apply Kd.R_drewN | apply Kd.R_drew)); exact HO_3.out) hb); have n1_ := Aside0.mk (below_step (by repeat (first | (with_reducible first | exact HB.out | apply below_alloc | apply pw_below_drewN | apply below_drew1) | exact HB.out)) hb); have n2_ := Aside0.mk (hbox); have n3_ := Aside0.mk ((by rw [hg]; exact (below_size (by repeat (first | (with_reducible first | exact HB.out | apply below_alloc | apply pw_below_drewN | apply below_drew1) | exact HB.out))) : w.heap.size ≤ gb121)); have n4_ := Aside0.mk ((by rw [hg]; exact (below_size (by repeat (first | (with_reducible first | exact HB.out | apply below_alloc | apply pw_below_drewN | apply below_drew1) | exact HB.out))) : w.heap.size ≤ gb121)); clear HO_3; clear HB; have HO_3 := n0_; have HB := n1_; have BK121 := n2_; have GW121 := n3_; have GE121 := n4_; clear n0_ n1_ n2_ n3_ n4_; clear hb hbox hg; have hcz9_0 : w8.cell? ⟨gb121, 0, none⟩ = some (.int .i64 0) := (blk_cell BK121.out 0).trans rfl; have hcz9_1 : w8.cell? ⟨gb121, 1, none⟩ = some (.int .i64 0) := (blk_cell BK121.out 1).trans rfl; have hcz9_2 : w8.cell? ⟨gb121, 2, none⟩ = some (.int .i64 0) := (blk_cell BK121.out 2).trans rfl; have hcz9_3 : w8.cell? ⟨gb121, 3, none⟩ = some (.int .i64 0) := (blk_cell BK121.out 3).trans rfl; have hfz9_0 := blk_frozen BK121.out 0; have hfz9_1 := blk_frozen BK121.out 1; have hfz9_2 := blk_frozen BK121.out 2; have hfz9_3 := blk_frozen BK121.out 3) | ((with_reducible refine gate_builtin (b := .append) (xs := #[.tmp 13, .tmp 23]) rfl ?_); at_builtin; refine Kd.R_append k58 (w0 := w) w.heap.size rfl (.tmp 13) (.tmp 23) 31 58 (.agg #[(.int .i64 0), (.int .i64 0), (.int .i64 0), (.int .i64 0)]) 32 rfl Try.underlying31 info58 rfl (by decide) (by omega) u3 x3_1 (⟨(rd_T64 l0 x9_1).f0, (rd_T64 l0 x9_1).f1, (rd_T64 l0 x9_1).f2, (rd_T64 l0 x9_1).f3⟩ : S58) [.int .i64 ((rd_T64 l0 x9_1).f0), .int .i64 ((rd_T64 l0 x9_1).f1), .int .i64 ((rd_T64 l0 x9_1).f2), .int .i64 ((rd_T64 l0 x9_1).f3)] (fun _ => True) (fun _ => False) rfl (by first | (go_simp; done) | (go_simp; rfl)) ?aP (fun _ hk => hk.elim) ?aF ?aO ?aB ?aS ?aL ?_; (case aP => exact k58_mkM _ _ _ (⟨(rd_T64 l0 x9_1).f0, (rd_T64 l0 x9_1).f1, (rd_T64 l0 x9_1).f2, (rd_T64 l0 x9_1).f3⟩ : S58)); (case aB => exact (by repeat (first | (with_reducible first | exact HB.out | apply below_alloc | apply pw_below_drewN | apply below_drew1 | refine below_set ?_ GE121.out) | exact HB.out))); (case aF => exact (fun _ _ => trivial)); (case aO => exact (by (with_reducible repeat (first | apply Kd.R_alloc | apply Kd.R_drewN | apply Kd.R_drew)); exact Kd.R_mono (Kd.R_far (p := ⟨gb121, 3, none⟩) (Kd.R_far (p := ⟨gb121, 2, none⟩) (Kd.R_far (p := ⟨gb121, 1, none⟩) (Kd.R_far (p := ⟨gb121, 0, none⟩) (Kd.R_types HO_3.out BK121.out (by decide)) (fun _ hk => hk.2) (.int .i64 ((rd_T64 l0 x9_1).f0))) (fun _ hk => hk.2) (.int .i64 ((rd_T64 l0 x9_1).f1))) (fun _ hk => hk.2) (.int .i64 ((rd_T64 l0 x9_1).f2))) (fun _ hk => hk.2) (.int .i64 ((rd_T64 l0 x9_1).f3))) (fun _ hk => trivial))); (case aS => exact (below_size (by repeat (first | (with_reducible first | exact HB.out | apply below_alloc | apply pw_below_drewN | apply below_drew1 | refine below_set ?_ GE121.out) | exact HB.out)))); (case aL => have := LMc7.out; omega); intro v123 w10 ho hb hg hat; rw [← Ny122.out] at ho; have n0_ := Aside0.mk (blk_grown (g := gb121) (o := .cells #[.int .i64 ((rd_T64 l0 x9_1).f0), .int .i64 ((rd_T64 l0 x9_1).f1), .int .i64 ((rd_T64 l0 x9_1).f2), .int .i64 ((rd_T64 l0 x9_1).f3)] 64 (0, 0)) (by (with_reducible repeat (first | refine blk_drewN ?_ _ | refine blk_drew ?_ | refine blk_alloc ?_ _)); refine blk_put (cs := #[.int .i64 ((rd_T64 l0 x9_1).f0), .int .i64 ((rd_T64 l0 x9_1).f1), .int .i64 ((rd_T64 l0 x9_1).f2), .int .i64 0]) ?_ 3 _ rfl; (with_reducible repeat (first | refine blk_drewN ?_ _ | refine blk_drew ?_ | refine blk_alloc ?_ _)); refine blk_put (cs := #[.int .i64 ((rd_T64 l0 x9_1).f0), .int .i64 ((rd_T64 l0 x9_1).f1), .int .i64 0, .int .i64 0]) ?_ 2 _ rfl; (with_reducible repeat (first | refine blk_drewN ?_ _ | refine blk_drew ?_ | refine blk_alloc ?_ _)); refine blk_put (cs := #[.int .i64 ((rd_T64 l0 x9_1).f0), .int .i64 0, .int .i64 0, .int .i64 0]) ?_ 1 _ rfl; (with_reducible repeat (first | refine blk_drewN ?_ _ | refine blk_drew ?_ | refine blk_alloc ?_ _)); refine blk_put (cs := #[.int .i64 0, .int .i64 0, .int .i64 0, .int .i64 0]) ?_ 0 _ rfl; (with_reducible repeat (first | refine blk_drewN ?_ _ | refine blk_drew ?_ | refine blk_alloc ?_ _)); exact BK121.out) hg (Kd.R_ne HO_3.out BK121.out (by decide))); have n1_ := Aside0.mk (hb); have n2_ := Aside0.mk (ho); clear BK121; clear HB; clear HO_3; have BK121 := n0_; have HB := n1_; have HO124 := n2_; clear n0_ n1_ n2_; clear ho hb hg hat))
              go_roundg k1
              case measure => have := HK1.out; omega
              case rel => exact ⟨(y122), (wrap64 (x9_1 + 1)), (by first | rfl | (simp; done) | (simp [*]; done)), H', ⟨by have := HK1.out; omega⟩, ⟨by (with_reducible repeat (first | apply Kd.R_alloc | apply Kd.R_drewN | apply Kd.R_drew)); exact HO124.out⟩, ⟨by repeat (first | (with_reducible first | exact HB.out | apply below_alloc | apply pw_below_drewN | apply below_drew1 | refine below_set ?_ GE121.out) | exact HB.out)⟩⟩
            · rw [if_neg c7] at H
              exact absurd H (by simp)
          · rw [if_neg c6] at H
            exact absurd H (by simp)
        · rw [if_neg c5] at H
          exact absurd H (by simp)
      · rw [if_neg c4] at H
        have c4b0 : decide (x9_1 < (l0.length : Int)) = false := decide_eq_false c4
        clear c4
        obtain rfl := Option.some.inj H
        go_wp2
        go_ret
        exact ⟨_, by first | rfl | (simp [errW_none, errW_some] <;> rfl) | (simp [*, errW_none, errW_some] <;> rfl), by (with_reducible repeat (first | apply Kd.R_alloc | apply Kd.R_drewN | apply Kd.R_drew)); exact HO_3.out, by repeat (first | (with_reducible first | exact HB.out | apply below_alloc | apply pw_below_drewN | apply below_drew1) | exact HB.out)⟩

/-! ### impl_pieces: function 26 -/
def impl_pieces.l0 : Nat → List (S56) → List (S65) → Int → Int → Option ((List (S56)))
  | 0, _, _, _, _ => none
  | k + 1, x3, x7, x8, x9 => if x9 < x8 then (if 0 ≤ x9 then (if x9 < (x7.length : Int) then (if x3.length < 5864062014805 then (impl_pieces.l0 k (x3 ++ [(⟨(rd_T65 x7 x9).f0, (rd_T65 x7 x9).f1, (rd_T65 x7 x9).f2⟩ : S56)]) x7 x8 (wrap64 (x9 + 1))) else (none)) else (none)) else (none)) else (some x3)
def impl_pieces.f (k : Nat) (l0 : List (S65)) : Option ((List (S56))) := impl_pieces.l0 k (([] : List (S56))) l0 (l0.length : Int) 0
theorem impl_pieces.mono_l : ∀ k, (∀ y0 y1 y2 y3, LeO (impl_pieces.l0 k y0 y1 y2 y3) (impl_pieces.l0 (k + 1) y0 y1 y2 y3))
  | 0 => fun _ _ _ _ r h => by simp [impl_pieces.l0] at h
  | k + 1 => by
    have ih0 := impl_pieces.mono_l k
    · intro y0 y1 y2 y3
      unfold impl_pieces.l0
      repeat' first
      | (with_reducible exact ih0 _ _ _ _)
      | (with_reducible exact LeO.refl _)
      | (with_reducible exact LeO.none _)
      | (with_reducible refine LeO.ite ?_ ?_)
      | (with_reducible refine LeO.bind ?_ (fun _ => ?_))
      | exact ih0 _ _ _ _
      | exact LeO.none _
      | refine LeO.ite ?_ ?_
      | refine LeO.bind ?_ (fun _ => ?_)
theorem impl_pieces.mono : ∀ a0 k, LeO (impl_pieces.f k a0) (impl_pieces.f (k + 1) a0) := by
  intro a0 k
  have ih0 := impl_pieces.mono_l k
  unfold impl_pieces.f
  repeat' first
      | (with_reducible exact ih0 _ _ _ _)
      | (with_reducible exact LeO.refl _)
      | (with_reducible exact LeO.none _)
      | (with_reducible refine LeO.ite ?_ ?_)
      | (with_reducible refine LeO.bind ?_ (fun _ => ?_))
      | exact ih0 _ _ _ _
      | exact LeO.none _
      | refine LeO.ite ?_ ?_
      | refine LeO.bind ?_ (fun _ => ?_)
set_option maxHeartbeats 8000000 in
set_option maxRecDepth 100000 in
theorem impl_pieces.calls (k : Nat) (A0 : Option Addr) (c0 : Nat) (l0 : List (S65)) (r : List (S56)) (w : World) (hr0 : Kd.C k65 w A0 l0.length l0) (hc0 : l0.length ≤ c0) (h : impl_pieces.f k l0 = some r) :
    Calls Try.prog 26 #[.slice A0 l0.length c0] w fun e w' => ∃ v0_ : Value, e = .returned (v0_) ∧ Kd.R k56 56 w' w.heap.size (fun _ => True) v0_ r ∧ Below w.heap.size w w' := by
  have hu65 := Try.underlying65
  have hu56 := Try.underlying56
  have HR0 := Aside0.mk hr0
  have HC0 := Aside0.mk hc0
  clear hr0 hc0
  have HB := Aside0.mk (Below.refl w.heap.size w)
  have H : (impl_pieces.l0 k (([] : List (S56))) l0 (l0.length : Int) 0) = some r := h
  clear h
  obtain ⟨y125, hy125⟩ : ∃ y_ : List (S56), y_ = (([] : List (S56))) := ⟨_, rfl⟩
  replace H : (impl_pieces.l0 k y125 l0 (l0.length : Int) 0) = some r := by first | (rw [hy125]; with_reducible exact H) | (have H2_ := (Option.bind_some _ _).symm.trans H; rw [hy125]; with_reducible exact H2_) | (have H2_ := (Option.bind_some _ _).symm.trans H; with_reducible exact H2_) | with_reducible exact H | (rw [hy125]; exact H) | exact H
  have Ny125 := Aside0.mk hy125
  clear hy125
  have H' := Aside0.mk H
  clear H
  go_enter Try.func26, Try.ntmps26
  go_wp2_with (first | ((with_reducible refine gate_dst (N := 6) rfl ?_); refine Kd.R_lit k56 _ 56 ?hg (N := 6) ?hd (xs := ([] : List (S56))) (inner := []) (ok := fun _ => True) (okp := fun _ => True) ?hr ?hp (fun _ hk => hk) trivial (Below.refl _ _) (Nat.le_refl _) (by simp) ?_; (case hd => rfl); (case hg => rfl); (case hr => first | (go_simp; done) | (go_simp; rfl)); (case hp => exact (Reps.none _ _)); intro v126 w2 ho3 hb hg_ hnew_; clear hg_ hnew_; (first | rw [← Ny125.out] at ho3 | (simp only [Int.reduceToNat] at ho3; rw [← Ny125.out] at ho3)); have n0_ := Aside0.mk (Kd.R_lower ho3 (below_size (by repeat (first | (with_reducible first | exact HB.out | apply below_alloc | apply pw_below_drewN | apply below_drew1) | exact HB.out)))); have n1_ := Aside0.mk (below_step (by repeat (first | (with_reducible first | exact HB.out | apply below_alloc | apply pw_below_drewN | apply below_drew1) | exact HB.out)) hb); clear HB; have HO127 := n0_; have HB := n1_; clear n0_ n1_; clear hb ho3))
  go_loopg [3, 9] k (fun kq v3 v9 w' => ∃ (x3_1 : List (S56)) (x9_1 : Int), v9 = .int .i64 x9_1 ∧ Aside0 (impl_pieces.l0 kq x3_1 l0 (l0.length : Int) x9_1 = some r) ∧ Aside0 (kq ≤ k) ∧ Aside0 (Kd.R k56 56 w' w.heap.size (fun _ => True) v3 x3_1) ∧ Aside0 (Below w.heap.size w w'))
  case atStart => exact ⟨(y125), (0), (by first | rfl | (simp; done) | (simp [*]; done)), H', ⟨Nat.le_refl _⟩, ⟨by (with_reducible repeat (first | apply Kd.R_alloc | apply Kd.R_drewN | apply Kd.R_drew)); exact HO127.out⟩, ⟨by repeat (first | (with_reducible first | exact HB.out | apply below_alloc | apply pw_below_drewN | apply below_drew1) | exact HB.out)⟩⟩
  case round =>
    clear H'
    try clear c2
    try clear p2
    obtain ⟨x3_1, x9_1, rfl, HA, HK1, HO_3, HB⟩ := hrel
    cases gk with
    | zero => exact absurd HA.out (by simp [impl_pieces.l0])
    | succ k1 =>
      have H := HA.out
      clear HA
      simp only [impl_pieces.l0] at H
      by_cases c4 : x9_1 < (l0.length : Int)
      · rw [if_pos c4] at H
        have c4b0 : decide (x9_1 < (l0.length : Int)) = true := decide_eq_true c4
        clear c4
        by_cases c5 : 0 ≤ x9_1
        · rw [if_pos c5] at H
          have c5b0 : decide (0 ≤ x9_1) = true := decide_eq_true c5
          clear c5
          by_cases c6 : x9_1 < (l0.length : Int)
          · rw [if_pos c6] at H
            have c6b0 : decide (x9_1 < (l0.length : Int)) = true := decide_eq_true c6
            clear c6
            by_cases c7 : x3_1.length < 5864062014805
            · rw [if_pos c7] at H
              have LMc7 := Aside0.mk c7
              clear c7
              obtain ⟨y130, hy130⟩ : ∃ y_ : List (S56), y_ = (x3_1 ++ [(⟨(rd_T65 l0 x9_1).f0, (rd_T65 l0 x9_1).f1, (rd_T65 l0 x9_1).f2⟩ : S56)]) := ⟨_, rfl⟩
              replace H : (impl_pieces.l0 k1 y130 l0 (l0.length : Int) (wrap64 (x9_1 + 1))) = some r := by first | (rw [hy130]; with_reducible exact H) | (have H2_ := (Option.bind_some _ _).symm.trans H; rw [hy130]; with_reducible exact H2_) | (have H2_ := (Option.bind_some _ _).symm.trans H; with_reducible exact H2_) | with_reducible exact H | (rw [hy130]; exact H) | exact H
              have Ny130 := Aside0.mk hy130
              clear hy130
              have H' := Aside0.mk H
              clear H
              have p128 : 0 ≤ (x9_1 : Int) := of_decide_eq_true (by first | (with_reducible assumption) | assumption)
              have q128 : x9_1 < (l0.length : Int) := of_decide_eq_true (by first | (with_reducible assumption) | assumption)
              obtain ⟨ad128, e128, hx128_0, hx128_1, hx128_2⟩ := at_T65 HR0.out x9_1 p128 q128
              cases e128
              replace hx128_0 := (HB.out.cell (World.block_lt_of_cell? w _ hx128_0)).trans hx128_0
              replace hx128_1 := (HB.out.cell (World.block_lt_of_cell? w _ hx128_1)).trans hx128_1
              replace hx128_2 := (HB.out.cell (World.block_lt_of_cell? w _ hx128_2)).trans hx128_2
              replace p128 := eq_true p128
              replace q128 := eq_true q128
              go_wp2_with (first | ((with_reducible refine gate_dst (N := 5) rfl ?_); refine box_event ?hg (N := 5) ?hd (cs := #[.int .i64 0, .int .i64 0, .int .i64 0]) (t := 65) ?hr ?_; (case hd => rfl); (case hg => rfl); (case hr => first | (go_simp; done) | (go_simp; rfl)); intro gb129 hg w8 hbox hb; have n0_ := Aside0.mk (Kd.R_below (by (with_reducible repeat (first | apply Kd.R_alloc | apply Kd.R_drewN | apply Kd.R_drew)); exact HO_3.out) hb); have n1_ := Aside0.mk (below_step (by repeat (first | (with_reducible first | exact HB.out | apply below_alloc | apply pw_below_drewN | apply below_drew1) | exact HB.out)) hb); have n2_ := Aside0.mk (hbox); have n3_ := Aside0.mk ((by rw [hg]; exact (below_size (by repeat (first | (with_reducible first | exact HB.out | apply below_alloc | apply pw_below_drewN | apply below_drew1) | exact HB.out))) : w.heap.size ≤ gb129)); have n4_ := Aside0.mk ((by rw [hg]; exact (below_size (by repeat (first | (with_reducible first | exact HB.out | apply below_alloc | apply pw_below_drewN | apply below_drew1) | exact HB.out))) : w.heap.size ≤ gb129)); clear HO_3; clear HB; have HO_3 := n0_; have HB := n1_; have BK129 := n2_; have GW129 := n3_; have GE129 := n4_; clear n0_ n1_ n2_ n3_ n4_; clear hb hbox hg; have hcz9_0 : w8.cell? ⟨gb129, 0, none⟩ = some (.int .i64 0) := (blk_cell BK129.out 0).trans rfl; have hcz9_1 : w8.cell? ⟨gb129, 1, none⟩ = some (.int .i64 0) := (blk_cell BK129.out 1).trans rfl; have hcz9_2 : w8.cell? ⟨gb129, 2, none⟩ = some (.int .i64 0) := (blk_cell BK129.out 2).trans rfl; have hfz9_0 := blk_frozen BK129.out 0; have hfz9_1 := blk_frozen BK129.out 1; have hfz9_2 := blk_frozen BK129.out 2) | ((with_reducible refine gate_builtin (b := .append) (xs := #[.tmp 13, .tmp 21]) rfl ?_); at_builtin; refine Kd.R_append k56 (w0 := w) w.heap.size rfl (.tmp 13) (.tmp 21) 32 56 (.agg #[(.int .i64 0), (.int .i64 0), (.int .i64 0)]) 24 rfl Try.underlying32 info56 rfl (by decide) (by omega) u3 x3_1 (⟨(rd_T65 l0 x9_1).f0, (rd_T65 l0 x9_1).f1, (rd_T65 l0 x9_1).f2⟩ : S56) [.int .i64 ((rd_T65 l0 x9_1).f0), .int .i64 ((rd_T65 l0 x9_1).f1), .int .i64 ((rd_T65 l0 x9_1).f2)] (fun _ => True) (fun _ => False) rfl (by first | (go_simp; done) | (go_simp; rfl)) ?aP (fun _ hk => hk.elim) ?aF ?aO ?aB ?aS ?aL ?_; (case aP => exact k56_mkM _ _ _ (⟨(rd_T65 l0 x9_1).f0, (rd_T65 l0 x9_1).f1, (rd_T65 l0 x9_1).f2⟩ : S56)); (case aB => exact (by repeat (first | (with_reducible first | exact HB.out | apply below_alloc | apply pw_below_drewN | apply below_drew1 | refine below_set ?_ GE129.out) | exact HB.out))); (case aF => exact (fun _ _ => trivial)); (case aO => exact (by (with_reducible repeat (first | apply Kd.R_alloc | apply Kd.R_drewN | apply Kd.R_drew)); exact Kd.R_mono (Kd.R_far (p := ⟨gb129, 2, none⟩) (Kd.R_far (p := ⟨gb129, 1, none⟩) (Kd.R_far (p := ⟨gb129, 0, none⟩) (Kd.R_types HO_3.out BK129.out (by decide)) (fun _ hk => hk.2) (.int .i64 ((rd_T65 l0 x9_1).f0))) (fun _ hk => hk.2) (.int .i64 ((rd_T65 l0 x9_1).f1))) (fun _ hk => hk.2) (.int .i64 ((rd_T65 l0 x9_1).f2))) (fun _ hk => trivial))); (case aS => exact (below_size (by repeat (first | (with_reducible first | exact HB.out | apply below_alloc | apply pw_below_drewN | apply below_drew1 | refine below_set ?_ GE129.out) | exact HB.out)))); (case aL => have := LMc7.out; omega); intro v131 w10 ho hb hg hat; rw [← Ny130.out] at ho; have n0_ := Aside0.mk (blk_grown (g := gb129) (o := .cells #[.int .i64 ((rd_T65 l0 x9_1).f0), .int .i64 ((rd_T65 l0 x9_1).f1), .int .i64 ((rd_T65 l0 x9_1).f2)] 65 (0, 0)) (by (with_reducible repeat (first | refine blk_drewN ?_ _ | refine blk_drew ?_ | refine blk_alloc ?_ _)); refine blk_put (cs := #[.int .i64 ((rd_T65 l0 x9_1).f0), .int .i64 ((rd_T65 l0 x9_1).f1), .int .i64 0]) ?_ 2 _ rfl; (with_reducible repeat (first | refine blk_drewN ?_ _ | refine blk_drew ?_ | refine blk_alloc ?_ _)); refine blk_put (cs := #[.int .i64 ((rd_T65 l0 x9_1).f0), .int .i64 0, .int .i64 0]) ?_ 1 _ rfl; (with_reducible repeat (first | refine blk_drewN ?_ _ | refine blk_drew ?_ | refine blk_alloc ?_ _)); refine blk_put (cs := #[.int .i64 0, .int .i64 0, .int .i64 0]) ?_ 0 _ rfl; (with_reducible repeat (first | refine blk_drewN ?_ _ | refine blk_drew ?_ | refine blk_alloc ?_ _)); exact BK129.out) hg (Kd.R_ne HO_3.out BK129.out (by decide))); have n1_ := Aside0.mk (hb); have n2_ := Aside0.mk (ho); clear BK129; clear HB; clear HO_3; have BK129 := n0_; have HB := n1_; have HO132 := n2_; clear n0_ n1_ n2_; clear ho hb hg hat))
              go_roundg k1
              case measure => have := HK1.out; omega
              case rel => exact ⟨(y130), (wrap64 (x9_1 + 1)), (by first | rfl | (simp; done) | (simp [*]; done)), H', ⟨by have := HK1.out; omega⟩, ⟨by (with_reducible repeat (first | apply Kd.R_alloc | apply Kd.R_drewN | apply Kd.R_drew)); exact HO132.out⟩, ⟨by repeat (first | (with_reducible first | exact HB.out | apply below_alloc | apply pw_below_drewN | apply below_drew1 | refine below_set ?_ GE129.out) | exact HB.out)⟩⟩
            · rw [if_neg c7] at H
              exact absurd H (by simp)
          · rw [if_neg c6] at H
            exact absurd H (by simp)
        · rw [if_neg c5] at H
          exact absurd H (by simp)
      · rw [if_neg c4] at H
        have c4b0 : decide (x9_1 < (l0.length : Int)) = false := decide_eq_false c4
        clear c4
        obtain rfl := Option.some.inj H
        go_wp2
        go_ret
        exact ⟨_, by first | rfl | (simp [errW_none, errW_some] <;> rfl) | (simp [*, errW_none, errW_some] <;> rfl), by (with_reducible repeat (first | apply Kd.R_alloc | apply Kd.R_drewN | apply Kd.R_drew)); exact HO_3.out, by repeat (first | (with_reducible first | exact HB.out | apply below_alloc | apply pw_below_drewN | apply below_drew1) | exact HB.out)⟩

-- NOT PRINTED: function 13 (impl_Backward)

end Go.Proofs.Ytonajgipkpnpoaa.QFnBackwardLead
