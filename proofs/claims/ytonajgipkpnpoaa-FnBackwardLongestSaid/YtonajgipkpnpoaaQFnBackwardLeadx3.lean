-- Written by a program of this session, after the kit's printer.
import Derived.Test.YtonajgipkpnpoaaQFnBackwardLeadx0
import Derived.Test.YtonajgipkpnpoaaQFnBackwardLeadx2
namespace Go.Proofs.Ytonajgipkpnpoaa.QFnBackwardLead
open Go.RowKit Go.Proofs.YtonajgipkpnpoaaW.PrintWords Go.Proofs.YtonajgipkpnpoaaW.PrintLast Go.Proofs.YtonajgipkpnpoaaW.PrintMore
attribute [local go_sem] max2_int min2_int max_two min_two max_three min_three max_four min_four   -- for this text's walks alone
set_option linter.unusedVariables false
set_option linter.unusedSimpArgs false

/-! ### spec_Road: function 14 -/
mutual
def spec_Road.l0 : Nat → List Int → List Int → Int → Bool → Int → Int → List (S56) → Int → Int → Option (Bool)
  | 0, _, _, _, _, _, _, _, _, _ => none
  | k + 1, x0, x1, x9, x10, x11, x12, x23, x24, x25 => if x25 < x24 then (if 0 ≤ x25 then (if x25 < (x23.length : Int) then (if ((rd_T56 x23 x25).f0) < x11 then (spec_Road.j1 k x0 x1 x9 x10 x23 x24 x25 true ((rd_T56 x23 x25).f0) ((rd_T56 x23 x25).f1) ((rd_T56 x23 x25).f2)) else (if ((rd_T56 x23 x25).f1) < x12 then (spec_Road.j1 k x0 x1 x9 x10 x23 x24 x25 true ((rd_T56 x23 x25).f0) ((rd_T56 x23 x25).f1) ((rd_T56 x23 x25).f2)) else (if ((rd_T56 x23 x25).f2) < 0 then (spec_Road.j1 k x0 x1 x9 x10 x23 x24 x25 true ((rd_T56 x23 x25).f0) ((rd_T56 x23 x25).f1) ((rd_T56 x23 x25).f2)) else (if (wrap64 (((rd_T56 x23 x25).f0) + ((rd_T56 x23 x25).f2))) > (x0.length : Int) then (spec_Road.j1 k x0 x1 x9 x10 x23 x24 x25 true ((rd_T56 x23 x25).f0) ((rd_T56 x23 x25).f1) ((rd_T56 x23 x25).f2)) else (spec_Road.j1 k x0 x1 x9 x10 x23 x24 x25 (decide ((wrap64 (((rd_T56 x23 x25).f1) + ((rd_T56 x23 x25).f2))) > (x1.length : Int))) ((rd_T56 x23 x25).f0) ((rd_T56 x23 x25).f1) ((rd_T56 x23 x25).f2)))))) else (none)) else (none)) else (if x10 = true then (some (x9 == 0)) else (some false))
def spec_Road.j1 : Nat → List Int → List Int → Int → Bool → List (S56) → Int → Int → Bool → Int → Int → Int → Option (Bool)
  | 0, _, _, _, _, _, _, _, _, _, _, _ => none
  | k + 1, x0, x1, x9, x10, x23, x24, x25, x63, x151000, x151001, x151002 => if x63 = true then (some false) else (spec_Road.l1 k x0 x1 x9 x10 x23 x24 x25 x151002 0 x151000 x151001 x151002)
def spec_Road.l1 : Nat → List Int → List Int → Int → Bool → List (S56) → Int → Int → Int → Int → Int → Int → Int → Option (Bool)
  | 0, _, _, _, _, _, _, _, _, _, _, _, _ => none
  | k + 1, x0, x1, x9, x10, x23, x24, x25, x65, x66, x151000, x151001, x151002 => if x66 < x65 then (if 0 ≤ (wrap64 (x151000 + x66)) then (if (wrap64 (x151000 + x66)) < (x0.length : Int) then (if 0 ≤ (wrap64 (x151001 + x66)) then (if (wrap64 (x151001 + x66)) < (x1.length : Int) then (if (rd x0 (wrap64 (x151000 + x66))) = (rd x1 (wrap64 (x151001 + x66))) then (spec_Road.l1 k x0 x1 x9 x10 x23 x24 x25 x65 (wrap64 (x66 + 1)) x151000 x151001 x151002) else (some false)) else (none)) else (none)) else (none)) else (none)) else (spec_Road.l0 k x0 x1 (wrap64 (x9 - x151002)) x10 (wrap64 (x151000 + x151002)) (wrap64 (x151001 + x151002)) x23 x24 (wrap64 (x25 + 1)))
end
def spec_Road.f (k : Nat) (l0 : List Int) (l1 : List Int) (l2 : List (S58)) (l3 : List (S56)) : Option (Bool) := (spec_Kept.f k l0 l1 l2).bind fun bt147 => (spec_Road.l0 k l0 l1 bt147.1 bt147.2 0 0 l3 (l3.length : Int) 0)
theorem spec_Road.mono_l : ∀ k, (∀ y0 y1 y2 y3 y4 y5 y6 y7 y8, LeO (spec_Road.l0 k y0 y1 y2 y3 y4 y5 y6 y7 y8) (spec_Road.l0 (k + 1) y0 y1 y2 y3 y4 y5 y6 y7 y8)) ∧ (∀ y0 y1 y2 y3 y4 y5 y6 y7 y8 y9 y10, LeO (spec_Road.j1 k y0 y1 y2 y3 y4 y5 y6 y7 y8 y9 y10) (spec_Road.j1 (k + 1) y0 y1 y2 y3 y4 y5 y6 y7 y8 y9 y10)) ∧ (∀ y0 y1 y2 y3 y4 y5 y6 y7 y8 y9 y10 y11, LeO (spec_Road.l1 k y0 y1 y2 y3 y4 y5 y6 y7 y8 y9 y10 y11) (spec_Road.l1 (k + 1) y0 y1 y2 y3 y4 y5 y6 y7 y8 y9 y10 y11))
  | 0 => ⟨fun _ _ _ _ _ _ _ _ _ r h => by simp [spec_Road.l0] at h, fun _ _ _ _ _ _ _ _ _ _ _ r h => by simp [spec_Road.j1] at h, fun _ _ _ _ _ _ _ _ _ _ _ _ r h => by simp [spec_Road.l1] at h⟩
  | k + 1 => by
    obtain ⟨ih0, ih1, ih2⟩ := spec_Road.mono_l k
    refine ⟨?_, ?_, ?_⟩
    · intro y0 y1 y2 y3 y4 y5 y6 y7 y8
      unfold spec_Road.l0
      repeat' first
      | (with_reducible exact ih0 _ _ _ _ _ _ _ _ _)
      | (with_reducible exact ih1 _ _ _ _ _ _ _ _ _ _ _)
      | (with_reducible exact ih2 _ _ _ _ _ _ _ _ _ _ _ _)
      | (with_reducible exact spec_Kept.mono _ _ _ _)
      | (with_reducible exact LeO.refl _)
      | (with_reducible exact LeO.none _)
      | (with_reducible refine LeO.ite ?_ ?_)
      | (with_reducible refine LeO.bind ?_ (fun _ => ?_))
      | exact ih0 _ _ _ _ _ _ _ _ _
      | exact ih1 _ _ _ _ _ _ _ _ _ _ _
      | exact ih2 _ _ _ _ _ _ _ _ _ _ _ _
      | exact spec_Kept.mono _ _ _ _
      | exact LeO.none _
      | refine LeO.ite ?_ ?_
      | refine LeO.bind ?_ (fun _ => ?_)
    · intro y0 y1 y2 y3 y4 y5 y6 y7 y8 y9 y10
      unfold spec_Road.j1
      repeat' first
      | (with_reducible exact ih0 _ _ _ _ _ _ _ _ _)
      | (with_reducible exact ih1 _ _ _ _ _ _ _ _ _ _ _)
      | (with_reducible exact ih2 _ _ _ _ _ _ _ _ _ _ _ _)
      | (with_reducible exact spec_Kept.mono _ _ _ _)
      | (with_reducible exact LeO.refl _)
      | (with_reducible exact LeO.none _)
      | (with_reducible refine LeO.ite ?_ ?_)
      | (with_reducible refine LeO.bind ?_ (fun _ => ?_))
      | exact ih0 _ _ _ _ _ _ _ _ _
      | exact ih1 _ _ _ _ _ _ _ _ _ _ _
      | exact ih2 _ _ _ _ _ _ _ _ _ _ _ _
      | exact spec_Kept.mono _ _ _ _
      | exact LeO.none _
      | refine LeO.ite ?_ ?_
      | refine LeO.bind ?_ (fun _ => ?_)
    · intro y0 y1 y2 y3 y4 y5 y6 y7 y8 y9 y10 y11
      unfold spec_Road.l1
      repeat' first
      | (with_reducible exact ih0 _ _ _ _ _ _ _ _ _)
      | (with_reducible exact ih1 _ _ _ _ _ _ _ _ _ _ _)
      | (with_reducible exact ih2 _ _ _ _ _ _ _ _ _ _ _ _)
      | (with_reducible exact spec_Kept.mono _ _ _ _)
      | (with_reducible exact LeO.refl _)
      | (with_reducible exact LeO.none _)
      | (with_reducible refine LeO.ite ?_ ?_)
      | (with_reducible refine LeO.bind ?_ (fun _ => ?_))
      | exact ih0 _ _ _ _ _ _ _ _ _
      | exact ih1 _ _ _ _ _ _ _ _ _ _ _
      | exact ih2 _ _ _ _ _ _ _ _ _ _ _ _
      | exact spec_Kept.mono _ _ _ _
      | exact LeO.none _
      | refine LeO.ite ?_ ?_
      | refine LeO.bind ?_ (fun _ => ?_)
theorem spec_Road.mono : ∀ a0 a1 a2 a3 k, LeO (spec_Road.f k a0 a1 a2 a3) (spec_Road.f (k + 1) a0 a1 a2 a3) := by
  intro a0 a1 a2 a3 k
  obtain ⟨ih0, ih1, ih2⟩ := spec_Road.mono_l k
  unfold spec_Road.f
  repeat' first
      | (with_reducible exact ih0 _ _ _ _ _ _ _ _ _)
      | (with_reducible exact ih1 _ _ _ _ _ _ _ _ _ _ _)
      | (with_reducible exact ih2 _ _ _ _ _ _ _ _ _ _ _ _)
      | (with_reducible exact spec_Kept.mono _ _ _ _)
      | (with_reducible exact LeO.refl _)
      | (with_reducible exact LeO.none _)
      | (with_reducible refine LeO.ite ?_ ?_)
      | (with_reducible refine LeO.bind ?_ (fun _ => ?_))
      | exact ih0 _ _ _ _ _ _ _ _ _
      | exact ih1 _ _ _ _ _ _ _ _ _ _ _
      | exact ih2 _ _ _ _ _ _ _ _ _ _ _ _
      | exact spec_Kept.mono _ _ _ _
      | exact LeO.none _
      | refine LeO.ite ?_ ?_
      | refine LeO.bind ?_ (fun _ => ?_)
set_option maxHeartbeats 8000000 in
set_option maxRecDepth 100000 in
theorem spec_Road.calls (k : Nat) (A0 : Option Addr) (c0 : Nat) (l0 : List Int) (A1 : Option Addr) (c1 : Nat) (l1 : List Int) (A2 : Option Addr) (c2 : Nat) (l2 : List (S58)) (A3 : Option Addr) (c3 : Nat) (l3 : List (S56)) (r : Bool) (w : World) (hr0 : Kd.C (Kd.int .i64) w A0 l0.length l0) (hc0 : l0.length ≤ c0) (hr1 : Kd.C (Kd.int .i64) w A1 l1.length l1) (hc1 : l1.length ≤ c1) (hr2 : Kd.C k58 w A2 l2.length l2) (hc2 : l2.length ≤ c2) (hr3 : Kd.C k56 w A3 l3.length l3) (hc3 : l3.length ≤ c3) (h : spec_Road.f k l0 l1 l2 l3 = some r) :
    Calls Try.prog 14 #[.slice A0 l0.length c0, .slice A1 l1.length c1, .slice A2 l2.length c2, .slice A3 l3.length c3] w fun e w' => e = .returned (.bool r) ∧ Below w.heap.size w w' := by
  have hu56 := Try.underlying56
  have HR0 := Aside0.mk hr0
  have HC0 := Aside0.mk hc0
  clear hr0 hc0
  have HR1 := Aside0.mk hr1
  have HC1 := Aside0.mk hc1
  clear hr1 hc1
  have HR2 := Aside0.mk hr2
  have HC2 := Aside0.mk hc2
  clear hr2 hc2
  have HR3 := Aside0.mk hr3
  have HC3 := Aside0.mk hc3
  clear hr3 hc3
  have HB := Aside0.mk (Below.refl w.heap.size w)
  have H : ((spec_Kept.f k l0 l1 l2).bind fun bt147 => (spec_Road.l0 k l0 l1 bt147.1 bt147.2 0 0 l3 (l3.length : Int) 0)) = some r := h
  clear h
  replace H := Option.bind_eq_some_iff.mp H
  obtain ⟨⟨t147, t148⟩, A50, H⟩ := H
  replace H : (spec_Road.l0 k l0 l1 t147 t148 0 0 l3 (l3.length : Int) 0) = some r := H
  have A5 := Aside0.mk A50
  clear A50
  have H' := Aside0.mk H
  clear H
  go_enter Try.func14, Try.ntmps14
  go_wp2_with (first | (go_at_call 16; (with_reducible refine (spec_Kept.calls k _ _ l0 _ _ l1 _ _ l2 t147 t148 _ ?side1 ?side2 ?side3 ?side4 ?side5 ?side6 A5.out).mono ?_); (case side1 => repeat (first | exact HR0.out | (with_reducible refine Kd.C_alloc ?_ _) | (with_reducible refine Kd.C_drewN ?_ _) | (with_reducible refine Kd.C_drew ?_))); (case side2 => exact HC0.out); (case side3 => repeat (first | exact HR1.out | (with_reducible refine Kd.C_alloc ?_ _) | (with_reducible refine Kd.C_drewN ?_ _) | (with_reducible refine Kd.C_drew ?_))); (case side4 => exact HC1.out); (case side5 => repeat (first | exact HR2.out | (with_reducible refine Kd.C_alloc ?_ _) | (with_reducible refine Kd.C_drewN ?_ _) | (with_reducible refine Kd.C_drew ?_))); (case side6 => exact HC2.out); rintro e w6 ⟨rfl, hb⟩; have n0_ := Aside0.mk (below_step (by repeat (first | (with_reducible first | exact HB.out | apply below_alloc | apply pw_below_drewN | apply below_drew1) | exact HB.out)) hb); clear HB; have HB := n0_; clear n0_; (try clear hb); (try clear hb2); (try clear hk); (try clear hi)))
  repeat (go_quiet (first | (go_at_call 16; (with_reducible refine (spec_Kept.calls k _ _ l0 _ _ l1 _ _ l2 t147 t148 _ ?side1 ?side2 ?side3 ?side4 ?side5 ?side6 A5.out).mono ?_); (case side1 => repeat (first | exact HR0.out | (with_reducible refine Kd.C_alloc ?_ _) | (with_reducible refine Kd.C_drewN ?_ _) | (with_reducible refine Kd.C_drew ?_))); (case side2 => exact HC0.out); (case side3 => repeat (first | exact HR1.out | (with_reducible refine Kd.C_alloc ?_ _) | (with_reducible refine Kd.C_drewN ?_ _) | (with_reducible refine Kd.C_drew ?_))); (case side4 => exact HC1.out); (case side5 => repeat (first | exact HR2.out | (with_reducible refine Kd.C_alloc ?_ _) | (with_reducible refine Kd.C_drewN ?_ _) | (with_reducible refine Kd.C_drew ?_))); (case side6 => exact HC2.out); rintro e w6 ⟨rfl, hb⟩; have n0_ := Aside0.mk (below_step (by repeat (first | (with_reducible first | exact HB.out | apply below_alloc | apply pw_below_drewN | apply below_drew1) | exact HB.out)) hb); clear HB; have HB := n0_; clear n0_; (try clear hb); (try clear hb2); (try clear hk); (try clear hi))); try go_wp2_with (first | (go_at_call 16; (with_reducible refine (spec_Kept.calls k _ _ l0 _ _ l1 _ _ l2 t147 t148 _ ?side1 ?side2 ?side3 ?side4 ?side5 ?side6 A5.out).mono ?_); (case side1 => repeat (first | exact HR0.out | (with_reducible refine Kd.C_alloc ?_ _) | (with_reducible refine Kd.C_drewN ?_ _) | (with_reducible refine Kd.C_drew ?_))); (case side2 => exact HC0.out); (case side3 => repeat (first | exact HR1.out | (with_reducible refine Kd.C_alloc ?_ _) | (with_reducible refine Kd.C_drewN ?_ _) | (with_reducible refine Kd.C_drew ?_))); (case side4 => exact HC1.out); (case side5 => repeat (first | exact HR2.out | (with_reducible refine Kd.C_alloc ?_ _) | (with_reducible refine Kd.C_drewN ?_ _) | (with_reducible refine Kd.C_drew ?_))); (case side6 => exact HC2.out); rintro e w6 ⟨rfl, hb⟩; have n0_ := Aside0.mk (below_step (by repeat (first | (with_reducible first | exact HB.out | apply below_alloc | apply pw_below_drewN | apply below_drew1) | exact HB.out)) hb); clear HB; have HB := n0_; clear n0_; (try clear hb); (try clear hb2); (try clear hk); (try clear hi))))
  go_loopg [9, 11, 12, 25] k (fun kq v9 v11 v12 v25 w' => ∃ (x9_1 : Int) (x11_1 : Int) (x12_1 : Int) (x25_1 : Int), v9 = .int .i64 x9_1 ∧ v11 = .int .i64 x11_1 ∧ v12 = .int .i64 x12_1 ∧ v25 = .int .i64 x25_1 ∧ Aside0 (spec_Road.l0 kq l0 l1 x9_1 t148 x11_1 x12_1 l3 (l3.length : Int) x25_1 = some r) ∧ Aside0 (kq ≤ k) ∧ Aside0 (Below w.heap.size w w'))
  case atStart => exact ⟨(t147), (0), (0), (0), (by first | rfl | (simp; done) | (simp [*]; done)), (by first | rfl | (simp; done) | (simp [*]; done)), (by first | rfl | (simp; done) | (simp [*]; done)), (by first | rfl | (simp; done) | (simp [*]; done)), H', ⟨Nat.le_refl _⟩, ⟨by repeat (first | (with_reducible first | exact HB.out | apply below_alloc | apply pw_below_drewN | apply below_drew1) | exact HB.out)⟩⟩
  case round =>
    clear H'
    try clear c1
    try clear c2
    try clear p2
    try clear c3
    obtain ⟨x9_1, x11_1, x12_1, x25_1, rfl, rfl, rfl, rfl, HA, HK1, HB⟩ := hrel
    cases gk with
    | zero => exact absurd HA.out (by simp [spec_Road.l0])
    | succ k1 =>
      have H := HA.out
      clear HA
      simp only [spec_Road.l0] at H
      by_cases c7 : x25_1 < (l3.length : Int)
      · rw [if_pos c7] at H
        have c7b0 : decide (x25_1 < (l3.length : Int)) = true := decide_eq_true c7
        clear c7
        by_cases c8 : 0 ≤ x25_1
        · rw [if_pos c8] at H
          have c8b0 : decide (0 ≤ x25_1) = true := decide_eq_true c8
          clear c8
          by_cases c9 : x25_1 < (l3.length : Int)
          · rw [if_pos c9] at H
            have c9b0 : decide (x25_1 < (l3.length : Int)) = true := decide_eq_true c9
            clear c9
            have HC10 := Aside0.mk H
            clear H
            have p149 : 0 ≤ (x25_1 : Int) := of_decide_eq_true (by first | (with_reducible assumption) | assumption)
            have q149 : x25_1 < (l3.length : Int) := of_decide_eq_true (by first | (with_reducible assumption) | assumption)
            obtain ⟨ad149, e149, hx149_0, hx149_1, hx149_2⟩ := at_T56 HR3.out x25_1 p149 q149
            cases e149
            replace hx149_0 := (HB.out.cell (World.block_lt_of_cell? w _ hx149_0)).trans hx149_0
            replace hx149_1 := (HB.out.cell (World.block_lt_of_cell? w _ hx149_1)).trans hx149_1
            replace hx149_2 := (HB.out.cell (World.block_lt_of_cell? w _ hx149_2)).trans hx149_2
            replace p149 := eq_true p149
            replace q149 := eq_true q149
            go_upto_region 6 with (first | ((with_reducible refine gate_dst (N := 14) rfl ?_); (try (refine gate_guard (by rfl) ?_; dsimp only)); refine box_event ?hg (N := 14) ?hd (cs := #[.int .i64 0, .int .i64 0, .int .i64 0]) (t := 56) ?hr ?_; (case hd => rfl); (case hg => rfl); (case hr => first | (go_simp; done) | (go_simp; rfl)); intro gb150 hg w11 hbox hb; have n0_ := Aside0.mk (below_step (by repeat (first | (with_reducible first | exact HB.out | apply below_alloc | apply pw_below_drewN | apply below_drew1) | exact HB.out)) hb); have n1_ := Aside0.mk (hbox); have n2_ := Aside0.mk ((by rw [hg]; exact (below_size (by repeat (first | (with_reducible first | exact HB.out | apply below_alloc | apply pw_below_drewN | apply below_drew1) | exact HB.out))) : w.heap.size ≤ gb150)); have n3_ := Aside0.mk ((by rw [hg]; exact (below_size (by repeat (first | (with_reducible first | exact HB.out | apply below_alloc | apply pw_below_drewN | apply below_drew1) | exact HB.out))) : w.heap.size ≤ gb150)); clear HB; have HB := n0_; have BK150 := n1_; have GW150 := n2_; have GE150 := n3_; clear n0_ n1_ n2_ n3_; clear hb hbox hg; have hcz12_0 : w11.cell? ⟨gb150, 0, none⟩ = some (.int .i64 0) := (blk_cell BK150.out 0).trans rfl; have hcz12_1 : w11.cell? ⟨gb150, 1, none⟩ = some (.int .i64 0) := (blk_cell BK150.out 1).trans rfl; have hcz12_2 : w11.cell? ⟨gb150, 2, none⟩ = some (.int .i64 0) := (blk_cell BK150.out 2).trans rfl; have hfz12_0 := blk_frozen BK150.out 0; have hfz12_1 := blk_frozen BK150.out 1; have hfz12_2 := blk_frozen BK150.out 2))
            repeat (go_quiet (first | ((with_reducible refine gate_dst (N := 14) rfl ?_); (try (refine gate_guard (by rfl) ?_; dsimp only)); refine box_event ?hg (N := 14) ?hd (cs := #[.int .i64 0, .int .i64 0, .int .i64 0]) (t := 56) ?hr ?_; (case hd => rfl); (case hg => rfl); (case hr => first | (go_simp; done) | (go_simp; rfl)); intro gb150 hg w11 hbox hb; have n0_ := Aside0.mk (below_step (by repeat (first | (with_reducible first | exact HB.out | apply below_alloc | apply pw_below_drewN | apply below_drew1) | exact HB.out)) hb); have n1_ := Aside0.mk (hbox); have n2_ := Aside0.mk ((by rw [hg]; exact (below_size (by repeat (first | (with_reducible first | exact HB.out | apply below_alloc | apply pw_below_drewN | apply below_drew1) | exact HB.out))) : w.heap.size ≤ gb150)); have n3_ := Aside0.mk ((by rw [hg]; exact (below_size (by repeat (first | (with_reducible first | exact HB.out | apply below_alloc | apply pw_below_drewN | apply below_drew1) | exact HB.out))) : w.heap.size ≤ gb150)); clear HB; have HB := n0_; have BK150 := n1_; have GW150 := n2_; have GE150 := n3_; clear n0_ n1_ n2_ n3_; clear hb hbox hg; have hcz12_0 : w11.cell? ⟨gb150, 0, none⟩ = some (.int .i64 0) := (blk_cell BK150.out 0).trans rfl; have hcz12_1 : w11.cell? ⟨gb150, 1, none⟩ = some (.int .i64 0) := (blk_cell BK150.out 1).trans rfl; have hcz12_2 : w11.cell? ⟨gb150, 2, none⟩ = some (.int .i64 0) := (blk_cell BK150.out 2).trans rfl; have hfz12_0 := blk_frozen BK150.out 0; have hfz12_1 := blk_frozen BK150.out 1; have hfz12_2 := blk_frozen BK150.out 2)); go_upto_region 6 with (first | ((with_reducible refine gate_dst (N := 14) rfl ?_); (try (refine gate_guard (by rfl) ?_; dsimp only)); refine box_event ?hg (N := 14) ?hd (cs := #[.int .i64 0, .int .i64 0, .int .i64 0]) (t := 56) ?hr ?_; (case hd => rfl); (case hg => rfl); (case hr => first | (go_simp; done) | (go_simp; rfl)); intro gb150 hg w11 hbox hb; have n0_ := Aside0.mk (below_step (by repeat (first | (with_reducible first | exact HB.out | apply below_alloc | apply pw_below_drewN | apply below_drew1) | exact HB.out)) hb); have n1_ := Aside0.mk (hbox); have n2_ := Aside0.mk ((by rw [hg]; exact (below_size (by repeat (first | (with_reducible first | exact HB.out | apply below_alloc | apply pw_below_drewN | apply below_drew1) | exact HB.out))) : w.heap.size ≤ gb150)); have n3_ := Aside0.mk ((by rw [hg]; exact (below_size (by repeat (first | (with_reducible first | exact HB.out | apply below_alloc | apply pw_below_drewN | apply below_drew1) | exact HB.out))) : w.heap.size ≤ gb150)); clear HB; have HB := n0_; have BK150 := n1_; have GW150 := n2_; have GE150 := n3_; clear n0_ n1_ n2_ n3_; clear hb hbox hg; have hcz12_0 : w11.cell? ⟨gb150, 0, none⟩ = some (.int .i64 0) := (blk_cell BK150.out 0).trans rfl; have hcz12_1 : w11.cell? ⟨gb150, 1, none⟩ = some (.int .i64 0) := (blk_cell BK150.out 1).trans rfl; have hcz12_2 : w11.cell? ⟨gb150, 2, none⟩ = some (.int .i64 0) := (blk_cell BK150.out 2).trans rfl; have hfz12_0 := blk_frozen BK150.out 0; have hfz12_1 := blk_frozen BK150.out 1; have hfz12_2 := blk_frozen BK150.out 2)))
            (try simp only [Act.put, List.setIfInBounds_toArray, List.set_cons_zero, List.set_cons_succ])
            go_cut [63] (fun v63 wc => ∃ (kq : Nat) (x63_9 : Bool), v63 = .bool x63_9 ∧ Aside0 (spec_Road.j1 kq l0 l1 x9_1 t148 l3 (l3.length : Int) x25_1 x63_9 ((rd_T56 l3 x25_1).f0) ((rd_T56 l3 x25_1).f1) ((rd_T56 l3 x25_1).f2) = some r) ∧ Aside0 (kq ≤ k1) ∧ Aside0 (wc.heap[gb150]? = some (.cells #[.int .i64 ((rd_T56 l3 x25_1).f0), .int .i64 ((rd_T56 l3 x25_1).f1), .int .i64 ((rd_T56 l3 x25_1).f2)] 56 (0, 0))) ∧ Aside0 (Below w.heap.size w wc))
            case first =>
              have H := HC10.out
              clear HC10
              by_cases c13 : ((rd_T56 l3 x25_1).f0) < x11_1
              · rw [if_pos c13] at H
                have c13b0 : decide (((rd_T56 l3 x25_1).f0) < x11_1) = true := decide_eq_true c13
                clear c13
                (first | rw [c13b0] | (simp only [i64_w, i32_w]; rw [c13b0]) | skip)
                have H' := Aside0.mk H
                clear H
                have hcz14_0 : w11.cell? ⟨gb150, 0, none⟩ = some (.int .i64 0) := (blk_cell BK150.out 0).trans rfl
                have hcz14_1 : w11.cell? ⟨gb150, 1, none⟩ = some (.int .i64 0) := (blk_cell BK150.out 1).trans rfl
                have hcz14_2 : w11.cell? ⟨gb150, 2, none⟩ = some (.int .i64 0) := (blk_cell BK150.out 2).trans rfl
                have hfz14_0 := blk_frozen BK150.out 0
                have hfz14_1 := blk_frozen BK150.out 1
                have hfz14_2 := blk_frozen BK150.out 2
                go_wp2
                repeat (go_quiet (fail); try go_wp2)
                go_meet
                case rel => exact ⟨_, (true), (by first | rfl | (simp; done) | (simp [*]; done)), H', ⟨by have := HK1.out; first | omega | exact Nat.le_refl _⟩, ⟨by (with_reducible repeat (first | refine blk_drewN ?_ _ | refine blk_drew ?_ | refine blk_alloc ?_ _)); refine blk_put (cs := #[.int .i64 ((rd_T56 l3 x25_1).f0), .int .i64 ((rd_T56 l3 x25_1).f1), .int .i64 0]) ?_ 2 _ rfl; (with_reducible repeat (first | refine blk_drewN ?_ _ | refine blk_drew ?_ | refine blk_alloc ?_ _)); refine blk_put (cs := #[.int .i64 ((rd_T56 l3 x25_1).f0), .int .i64 0, .int .i64 0]) ?_ 1 _ rfl; (with_reducible repeat (first | refine blk_drewN ?_ _ | refine blk_drew ?_ | refine blk_alloc ?_ _)); refine blk_put (cs := #[.int .i64 0, .int .i64 0, .int .i64 0]) ?_ 0 _ rfl; (with_reducible repeat (first | refine blk_drewN ?_ _ | refine blk_drew ?_ | refine blk_alloc ?_ _)); exact BK150.out⟩, ⟨by repeat (first | (with_reducible first | exact HB.out | apply below_alloc | apply pw_below_drewN | apply below_drew1 | refine below_set ?_ GE150.out) | exact HB.out)⟩⟩
              · rw [if_neg c13] at H
                have c13b0 : decide (((rd_T56 l3 x25_1).f0) < x11_1) = false := decide_eq_false c13
                clear c13
                (first | rw [c13b0] | (simp only [i64_w, i32_w]; rw [c13b0]) | skip)
                by_cases c15 : ((rd_T56 l3 x25_1).f1) < x12_1
                · rw [if_pos c15] at H
                  have c15b0 : decide (((rd_T56 l3 x25_1).f1) < x12_1) = true := decide_eq_true c15
                  clear c15
                  have H' := Aside0.mk H
                  clear H
                  have hcz16_0 : w11.cell? ⟨gb150, 0, none⟩ = some (.int .i64 0) := (blk_cell BK150.out 0).trans rfl
                  have hcz16_1 : w11.cell? ⟨gb150, 1, none⟩ = some (.int .i64 0) := (blk_cell BK150.out 1).trans rfl
                  have hcz16_2 : w11.cell? ⟨gb150, 2, none⟩ = some (.int .i64 0) := (blk_cell BK150.out 2).trans rfl
                  have hfz16_0 := blk_frozen BK150.out 0
                  have hfz16_1 := blk_frozen BK150.out 1
                  have hfz16_2 := blk_frozen BK150.out 2
                  go_wp2
                  repeat (go_quiet (fail); try go_wp2)
                  go_meet
                  case rel => exact ⟨_, (true), (by first | rfl | (simp; done) | (simp [*]; done)), H', ⟨by have := HK1.out; first | omega | exact Nat.le_refl _⟩, ⟨by (with_reducible repeat (first | refine blk_drewN ?_ _ | refine blk_drew ?_ | refine blk_alloc ?_ _)); refine blk_put (cs := #[.int .i64 ((rd_T56 l3 x25_1).f0), .int .i64 ((rd_T56 l3 x25_1).f1), .int .i64 0]) ?_ 2 _ rfl; (with_reducible repeat (first | refine blk_drewN ?_ _ | refine blk_drew ?_ | refine blk_alloc ?_ _)); refine blk_put (cs := #[.int .i64 ((rd_T56 l3 x25_1).f0), .int .i64 0, .int .i64 0]) ?_ 1 _ rfl; (with_reducible repeat (first | refine blk_drewN ?_ _ | refine blk_drew ?_ | refine blk_alloc ?_ _)); refine blk_put (cs := #[.int .i64 0, .int .i64 0, .int .i64 0]) ?_ 0 _ rfl; (with_reducible repeat (first | refine blk_drewN ?_ _ | refine blk_drew ?_ | refine blk_alloc ?_ _)); exact BK150.out⟩, ⟨by repeat (first | (with_reducible first | exact HB.out | apply below_alloc | apply pw_below_drewN | apply below_drew1 | refine below_set ?_ GE150.out) | exact HB.out)⟩⟩
                · rw [if_neg c15] at H
                  have c15b0 : decide (((rd_T56 l3 x25_1).f1) < x12_1) = false := decide_eq_false c15
                  clear c15
                  by_cases c17 : ((rd_T56 l3 x25_1).f2) < 0
                  · rw [if_pos c17] at H
                    have c17b0 : decide (((rd_T56 l3 x25_1).f2) < 0) = true := decide_eq_true c17
                    clear c17
                    have H' := Aside0.mk H
                    clear H
                    have hcz18_0 : w11.cell? ⟨gb150, 0, none⟩ = some (.int .i64 0) := (blk_cell BK150.out 0).trans rfl
                    have hcz18_1 : w11.cell? ⟨gb150, 1, none⟩ = some (.int .i64 0) := (blk_cell BK150.out 1).trans rfl
                    have hcz18_2 : w11.cell? ⟨gb150, 2, none⟩ = some (.int .i64 0) := (blk_cell BK150.out 2).trans rfl
                    have hfz18_0 := blk_frozen BK150.out 0
                    have hfz18_1 := blk_frozen BK150.out 1
                    have hfz18_2 := blk_frozen BK150.out 2
                    go_wp2
                    repeat (go_quiet (fail); try go_wp2)
                    go_meet
                    case rel => exact ⟨_, (true), (by first | rfl | (simp; done) | (simp [*]; done)), H', ⟨by have := HK1.out; first | omega | exact Nat.le_refl _⟩, ⟨by (with_reducible repeat (first | refine blk_drewN ?_ _ | refine blk_drew ?_ | refine blk_alloc ?_ _)); refine blk_put (cs := #[.int .i64 ((rd_T56 l3 x25_1).f0), .int .i64 ((rd_T56 l3 x25_1).f1), .int .i64 0]) ?_ 2 _ rfl; (with_reducible repeat (first | refine blk_drewN ?_ _ | refine blk_drew ?_ | refine blk_alloc ?_ _)); refine blk_put (cs := #[.int .i64 ((rd_T56 l3 x25_1).f0), .int .i64 0, .int .i64 0]) ?_ 1 _ rfl; (with_reducible repeat (first | refine blk_drewN ?_ _ | refine blk_drew ?_ | refine blk_alloc ?_ _)); refine blk_put (cs := #[.int .i64 0, .int .i64 0, .int .i64 0]) ?_ 0 _ rfl; (with_reducible repeat (first | refine blk_drewN ?_ _ | refine blk_drew ?_ | refine blk_alloc ?_ _)); exact BK150.out⟩, ⟨by repeat (first | (with_reducible first | exact HB.out | apply below_alloc | apply pw_below_drewN | apply below_drew1 | refine below_set ?_ GE150.out) | exact HB.out)⟩⟩
                  · rw [if_neg c17] at H
                    have c17b0 : decide (((rd_T56 l3 x25_1).f2) < 0) = false := decide_eq_false c17
                    clear c17
                    by_cases c19 : (wrap64 (((rd_T56 l3 x25_1).f0) + ((rd_T56 l3 x25_1).f2))) > (l0.length : Int)
                    · rw [if_pos c19] at H
                      have c19b0 : decide ((l0.length : Int) < (wrap64 (((rd_T56 l3 x25_1).f0) + ((rd_T56 l3 x25_1).f2)))) = true := decide_eq_true c19
                      clear c19
                      have H' := Aside0.mk H
                      clear H
                      have hcz20_0 : w11.cell? ⟨gb150, 0, none⟩ = some (.int .i64 0) := (blk_cell BK150.out 0).trans rfl
                      have hcz20_1 : w11.cell? ⟨gb150, 1, none⟩ = some (.int .i64 0) := (blk_cell BK150.out 1).trans rfl
                      have hcz20_2 : w11.cell? ⟨gb150, 2, none⟩ = some (.int .i64 0) := (blk_cell BK150.out 2).trans rfl
                      have hfz20_0 := blk_frozen BK150.out 0
                      have hfz20_1 := blk_frozen BK150.out 1
                      have hfz20_2 := blk_frozen BK150.out 2
                      go_wp2
                      repeat (go_quiet (fail); try go_wp2)
                      go_meet
                      case rel => exact ⟨_, (true), (by first | rfl | (simp; done) | (simp [*]; done)), H', ⟨by have := HK1.out; first | omega | exact Nat.le_refl _⟩, ⟨by (with_reducible repeat (first | refine blk_drewN ?_ _ | refine blk_drew ?_ | refine blk_alloc ?_ _)); refine blk_put (cs := #[.int .i64 ((rd_T56 l3 x25_1).f0), .int .i64 ((rd_T56 l3 x25_1).f1), .int .i64 0]) ?_ 2 _ rfl; (with_reducible repeat (first | refine blk_drewN ?_ _ | refine blk_drew ?_ | refine blk_alloc ?_ _)); refine blk_put (cs := #[.int .i64 ((rd_T56 l3 x25_1).f0), .int .i64 0, .int .i64 0]) ?_ 1 _ rfl; (with_reducible repeat (first | refine blk_drewN ?_ _ | refine blk_drew ?_ | refine blk_alloc ?_ _)); refine blk_put (cs := #[.int .i64 0, .int .i64 0, .int .i64 0]) ?_ 0 _ rfl; (with_reducible repeat (first | refine blk_drewN ?_ _ | refine blk_drew ?_ | refine blk_alloc ?_ _)); exact BK150.out⟩, ⟨by repeat (first | (with_reducible first | exact HB.out | apply below_alloc | apply pw_below_drewN | apply below_drew1 | refine below_set ?_ GE150.out) | exact HB.out)⟩⟩
                    · rw [if_neg c19] at H
                      have c19b0 : decide ((l0.length : Int) < (wrap64 (((rd_T56 l3 x25_1).f0) + ((rd_T56 l3 x25_1).f2)))) = false := decide_eq_false c19
                      clear c19
                      have H' := Aside0.mk H
                      clear H
                      have hcz21_0 : w11.cell? ⟨gb150, 0, none⟩ = some (.int .i64 0) := (blk_cell BK150.out 0).trans rfl
                      have hcz21_1 : w11.cell? ⟨gb150, 1, none⟩ = some (.int .i64 0) := (blk_cell BK150.out 1).trans rfl
                      have hcz21_2 : w11.cell? ⟨gb150, 2, none⟩ = some (.int .i64 0) := (blk_cell BK150.out 2).trans rfl
                      have hfz21_0 := blk_frozen BK150.out 0
                      have hfz21_1 := blk_frozen BK150.out 1
                      have hfz21_2 := blk_frozen BK150.out 2
                      go_wp2
                      repeat (go_quiet (fail); try go_wp2)
                      go_meet
                      case rel => exact ⟨_, (decide ((wrap64 (((rd_T56 l3 x25_1).f1) + ((rd_T56 l3 x25_1).f2))) > (l1.length : Int))), (by first | rfl | (simp; done) | (simp [*]; done)), H', ⟨by have := HK1.out; first | omega | exact Nat.le_refl _⟩, ⟨by (with_reducible repeat (first | refine blk_drewN ?_ _ | refine blk_drew ?_ | refine blk_alloc ?_ _)); refine blk_put (cs := #[.int .i64 ((rd_T56 l3 x25_1).f0), .int .i64 ((rd_T56 l3 x25_1).f1), .int .i64 0]) ?_ 2 _ rfl; (with_reducible repeat (first | refine blk_drewN ?_ _ | refine blk_drew ?_ | refine blk_alloc ?_ _)); refine blk_put (cs := #[.int .i64 ((rd_T56 l3 x25_1).f0), .int .i64 0, .int .i64 0]) ?_ 1 _ rfl; (with_reducible repeat (first | refine blk_drewN ?_ _ | refine blk_drew ?_ | refine blk_alloc ?_ _)); refine blk_put (cs := #[.int .i64 0, .int .i64 0, .int .i64 0]) ?_ 0 _ rfl; (with_reducible repeat (first | refine blk_drewN ?_ _ | refine blk_drew ?_ | refine blk_alloc ?_ _)); exact BK150.out⟩, ⟨by repeat (first | (with_reducible first | exact HB.out | apply below_alloc | apply pw_below_drewN | apply below_drew1 | refine below_set ?_ GE150.out) | exact HB.out)⟩⟩
            case rest =>
              clear HC10
              try clear c1
              try clear p1
              try clear q1
              try clear hx1
              try clear c2
              try clear p2
              try clear c3
              try clear p6
              try clear c7
              try clear c7b0
              try clear c8
              try clear c8b0
              try clear c9
              try clear c9b0
              try clear c13
              try clear c13b0
              try clear c14
              try clear p14
              try clear q14
              try clear hx14
              try clear c15
              try clear c15b0
              try clear c17
              try clear c17b0
              try clear c19
              try clear c19b0
              try clear hcz12_0
              try clear hcz12_1
              try clear hcz12_2
              try clear hcz14_0
              try clear hcz14_1
              try clear hcz14_2
              try clear hcz16_0
              try clear hcz16_1
              try clear hcz16_2
              try clear hcz18_0
              try clear hcz18_1
              try clear hcz18_2
              try clear hcz20_0
              try clear hcz20_1
              try clear hcz20_2
              try clear hcz21_0
              try clear hcz21_1
              try clear hcz21_2
              try clear hfz12_0
              try clear hfz12_1
              try clear hfz12_2
              try clear hfz14_0
              try clear hfz14_1
              try clear hfz14_2
              try clear hfz16_0
              try clear hfz16_1
              try clear hfz16_2
              try clear hfz18_0
              try clear hfz18_1
              try clear hfz18_2
              try clear hfz20_0
              try clear hfz20_1
              try clear hfz20_2
              try clear hfz21_0
              try clear hfz21_1
              try clear hfz21_2
              try clear hx149_0
              try clear hx149_1
              try clear hx149_2
              try clear p149
              try clear p2
              try clear q149
              obtain ⟨kq, x63_9, rfl, HA, HJ9, BK150, HB⟩ := hcut
              cases kq with
              | zero => exact absurd HA.out (by simp [spec_Road.j1])
              | succ kj9 =>
                have H := HA.out
                clear HA
                simp only [spec_Road.j1] at H
                by_cases c22 : x63_9 = true
                · subst c22
                  have H1 : (some false) = some r := by rw [if_pos rfl] at H; exact H
                  clear H
                  have H := H1
                  clear H1
                  obtain rfl := Option.some.inj H
                  go_wp2
                  repeat (go_quiet (fail); try go_wp2)
                  go_ret
                  exact ⟨by first | rfl | (simp [errW_none, errW_some] <;> rfl) | (simp [*, errW_none, errW_some] <;> rfl), by repeat (first | (with_reducible first | exact HB.out | apply below_alloc | apply pw_below_drewN | apply below_drew1 | refine below_set ?_ GE150.out) | exact HB.out)⟩
                · replace c22 := Bool.eq_false_iff.mpr c22
                  subst c22
                  have H1 : (spec_Road.l1 kj9 l0 l1 x9_1 t148 l3 (l3.length : Int) x25_1 ((rd_T56 l3 x25_1).f2) 0 ((rd_T56 l3 x25_1).f0) ((rd_T56 l3 x25_1).f1) ((rd_T56 l3 x25_1).f2)) = some r := by rw [if_neg (show ¬ (false = true) by decide)] at H; exact H
                  clear H
                  have H := H1
                  clear H1
                  have H' := Aside0.mk H
                  clear H
                  have hcz23_0 : wc.cell? ⟨gb150, 0, none⟩ = some (.int .i64 ((rd_T56 l3 x25_1).f0)) := (blk_cell BK150.out 0).trans rfl
                  have hcz23_1 : wc.cell? ⟨gb150, 1, none⟩ = some (.int .i64 ((rd_T56 l3 x25_1).f1)) := (blk_cell BK150.out 1).trans rfl
                  have hcz23_2 : wc.cell? ⟨gb150, 2, none⟩ = some (.int .i64 ((rd_T56 l3 x25_1).f2)) := (blk_cell BK150.out 2).trans rfl
                  have hfz23_0 := blk_frozen BK150.out 0
                  have hfz23_1 := blk_frozen BK150.out 1
                  have hfz23_2 := blk_frozen BK150.out 2
                  go_wp2
                  repeat (go_quiet (fail); try go_wp2)
                  go_loopg [66] kj9 (fun kq v66 w' => ∃ (x66_3 : Int), v66 = .int .i64 x66_3 ∧ Aside0 (spec_Road.l1 kq l0 l1 x9_1 t148 l3 (l3.length : Int) x25_1 ((rd_T56 l3 x25_1).f2) x66_3 ((rd_T56 l3 x25_1).f0) ((rd_T56 l3 x25_1).f1) ((rd_T56 l3 x25_1).f2) = some r) ∧ Aside0 (kq ≤ kj9) ∧ Aside0 (w'.heap[gb150]? = some (.cells #[.int .i64 ((rd_T56 l3 x25_1).f0), .int .i64 ((rd_T56 l3 x25_1).f1), .int .i64 ((rd_T56 l3 x25_1).f2)] 56 (0, 0))) ∧ Aside0 (Below w.heap.size w w'))
                  case atStart => exact ⟨(0), (by first | rfl | (simp; done) | (simp [*]; done)), H', ⟨Nat.le_refl _⟩, ⟨by (with_reducible repeat (first | refine blk_drewN ?_ _ | refine blk_drew ?_ | refine blk_alloc ?_ _)); exact BK150.out⟩, ⟨by repeat (first | (with_reducible first | exact HB.out | apply below_alloc | apply pw_below_drewN | apply below_drew1 | refine below_set ?_ GE150.out) | exact HB.out)⟩⟩
                  case round =>
                    clear H'
                    try clear c1
                    try clear p1
                    try clear q1
                    try clear hx1
                    try clear c2
                    try clear p2
                    try clear c3
                    try clear p6
                    try clear c7
                    try clear c7b0
                    try clear c8
                    try clear c8b0
                    try clear c9
                    try clear c9b0
                    try clear c13
                    try clear c13b0
                    try clear c14
                    try clear p14
                    try clear q14
                    try clear hx14
                    try clear c15
                    try clear c15b0
                    try clear c17
                    try clear c17b0
                    try clear c19
                    try clear c19b0
                    try clear c22
                    try clear hcz12_0
                    try clear hcz12_1
                    try clear hcz12_2
                    try clear hcz14_0
                    try clear hcz14_1
                    try clear hcz14_2
                    try clear hcz16_0
                    try clear hcz16_1
                    try clear hcz16_2
                    try clear hcz18_0
                    try clear hcz18_1
                    try clear hcz18_2
                    try clear hcz20_0
                    try clear hcz20_1
                    try clear hcz20_2
                    try clear hcz21_0
                    try clear hcz21_1
                    try clear hcz21_2
                    try clear hcz23_0
                    try clear hcz23_1
                    try clear hcz23_2
                    try clear hfz12_0
                    try clear hfz12_1
                    try clear hfz12_2
                    try clear hfz14_0
                    try clear hfz14_1
                    try clear hfz14_2
                    try clear hfz16_0
                    try clear hfz16_1
                    try clear hfz16_2
                    try clear hfz18_0
                    try clear hfz18_1
                    try clear hfz18_2
                    try clear hfz20_0
                    try clear hfz20_1
                    try clear hfz20_2
                    try clear hfz21_0
                    try clear hfz21_1
                    try clear hfz21_2
                    try clear hfz23_0
                    try clear hfz23_1
                    try clear hfz23_2
                    try clear hx149_0
                    try clear hx149_1
                    try clear hx149_2
                    try clear p1
                    try clear p14
                    try clear p149
                    try clear p2
                    try clear p6
                    try clear q1
                    try clear q14
                    try clear q149
                    obtain ⟨x66_3, rfl, HA, HK3, BK150, HB⟩ := hrel
                    cases gk with
                    | zero => exact absurd HA.out (by simp [spec_Road.l1])
                    | succ k3 =>
                      have H := HA.out
                      clear HA
                      simp only [spec_Road.l1] at H
                      by_cases c24 : x66_3 < ((rd_T56 l3 x25_1).f2)
                      · rw [if_pos c24] at H
                        have c24b0 : decide (x66_3 < ((rd_T56 l3 x25_1).f2)) = true := decide_eq_true c24
                        clear c24
                        obtain ⟨ji25, hji25⟩ : ∃ j_ : Int, (wrap64 (((rd_T56 l3 x25_1).f0) + x66_3)) = j_ := ⟨_, rfl⟩
                        replace H : (if 0 ≤ (ji25) then (if (ji25) < (l0.length : Int) then (if 0 ≤ (wrap64 (((rd_T56 l3 x25_1).f1) + x66_3)) then (if (wrap64 (((rd_T56 l3 x25_1).f1) + x66_3)) < (l1.length : Int) then (if (rd l0 (ji25)) = (rd l1 (wrap64 (((rd_T56 l3 x25_1).f1) + x66_3))) then (spec_Road.l1 k3 l0 l1 x9_1 t148 l3 (l3.length : Int) x25_1 ((rd_T56 l3 x25_1).f2) (wrap64 (x66_3 + 1)) ((rd_T56 l3 x25_1).f0) ((rd_T56 l3 x25_1).f1) ((rd_T56 l3 x25_1).f2)) else (some false)) else (none)) else (none)) else (none)) else (none)) = some r := by first | (rw [hji25] at H; exact H) | (simp only [hji25] at H ⊢; exact H)
                        have hji25w : (IntKind.i64.wrap (((rd_T56 l3 x25_1).f0) + x66_3)) = ji25 := (i64_w _).trans hji25
                        by_cases c26 : 0 ≤ (ji25)
                        · rw [if_pos c26] at H
                          have c26b0 : decide (0 ≤ (ji25)) = true := decide_eq_true c26
                          clear c26
                          by_cases c27 : (ji25) < (l0.length : Int)
                          · rw [if_pos c27] at H
                            have c27b0 : decide ((ji25) < (l0.length : Int)) = true := decide_eq_true c27
                            clear c27
                            obtain ⟨ji28, hji28⟩ : ∃ j_ : Int, (wrap64 (((rd_T56 l3 x25_1).f1) + x66_3)) = j_ := ⟨_, rfl⟩
                            replace H : (if 0 ≤ (ji28) then (if (ji28) < (l1.length : Int) then (if (rd l0 (ji25)) = (rd l1 (ji28)) then (spec_Road.l1 k3 l0 l1 x9_1 t148 l3 (l3.length : Int) x25_1 ((rd_T56 l3 x25_1).f2) (wrap64 (x66_3 + 1)) ((rd_T56 l3 x25_1).f0) ((rd_T56 l3 x25_1).f1) ((rd_T56 l3 x25_1).f2)) else (some false)) else (none)) else (none)) = some r := by first | (rw [hji28] at H; exact H) | (simp only [hji28] at H ⊢; exact H)
                            have hji28w : (IntKind.i64.wrap (((rd_T56 l3 x25_1).f1) + x66_3)) = ji28 := (i64_w _).trans hji28
                            by_cases c29 : 0 ≤ (ji28)
                            · rw [if_pos c29] at H
                              have c29b0 : decide (0 ≤ (ji28)) = true := decide_eq_true c29
                              clear c29
                              by_cases c30 : (ji28) < (l1.length : Int)
                              · rw [if_pos c30] at H
                                have c30b0 : decide ((ji28) < (l1.length : Int)) = true := decide_eq_true c30
                                clear c30
                                by_cases c31 : (rd l0 (ji25)) = (rd l1 (ji28))
                                · rw [if_pos c31] at H
                                  have c31b0 : ((rd l0 (ji25)) == (rd l1 (ji28))) = true := beq_iff_eq.mpr c31
                                  have c31b1 : ((rd l0 (ji25)) != (rd l1 (ji28))) = false := bne_eq_false_iff_eq.mpr c31
                                  clear c31
                                  have H' := Aside0.mk H
                                  clear H
                                  have hcz32_0 : wr.cell? ⟨gb150, 0, none⟩ = some (.int .i64 ((rd_T56 l3 x25_1).f0)) := (blk_cell BK150.out 0).trans rfl
                                  have hcz32_1 : wr.cell? ⟨gb150, 1, none⟩ = some (.int .i64 ((rd_T56 l3 x25_1).f1)) := (blk_cell BK150.out 1).trans rfl
                                  have hcz32_2 : wr.cell? ⟨gb150, 2, none⟩ = some (.int .i64 ((rd_T56 l3 x25_1).f2)) := (blk_cell BK150.out 2).trans rfl
                                  have hfz32_0 := blk_frozen BK150.out 0
                                  have hfz32_1 := blk_frozen BK150.out 1
                                  have hfz32_2 := blk_frozen BK150.out 2
                                  have p151 : 0 ≤ ((ji25) : Int) := of_decide_eq_true (by first | (with_reducible assumption) | assumption)
                                  have q151 : (ji25) < (l0.length : Int) := of_decide_eq_true (by first | (with_reducible assumption) | assumption)
                                  obtain ⟨ad151, e151, hx151_0⟩ := Kd.at_int HR0.out (ji25) p151 q151
                                  cases e151
                                  replace hx151_0 := (HB.out.cell (World.block_lt_of_cell? w _ hx151_0)).trans hx151_0
                                  replace p151 := eq_true p151
                                  replace q151 := eq_true q151
                                  have p152 : 0 ≤ ((ji28) : Int) := of_decide_eq_true (by first | (with_reducible assumption) | assumption)
                                  have q152 : (ji28) < (l1.length : Int) := of_decide_eq_true (by first | (with_reducible assumption) | assumption)
                                  obtain ⟨ad152, e152, hx152_0⟩ := Kd.at_int HR1.out (ji28) p152 q152
                                  cases e152
                                  replace hx152_0 := (HB.out.cell (World.block_lt_of_cell? w _ hx152_0)).trans hx152_0
                                  replace p152 := eq_true p152
                                  replace q152 := eq_true q152
                                  go_wp2
                                  repeat (go_quiet (fail); try go_wp2)
                                  go_roundg k3
                                  case measure => have := HK1.out; have := HJ9.out; have := HK3.out; omega
                                  case rel => exact ⟨(wrap64 (x66_3 + 1)), (by first | rfl | (simp; done) | (simp [*]; done)), H', ⟨by have := HK1.out; have := HJ9.out; have := HK3.out; omega⟩, ⟨by (with_reducible repeat (first | refine blk_drewN ?_ _ | refine blk_drew ?_ | refine blk_alloc ?_ _)); exact BK150.out⟩, ⟨by repeat (first | (with_reducible first | exact HB.out | apply below_alloc | apply pw_below_drewN | apply below_drew1 | refine below_set ?_ GE150.out) | exact HB.out)⟩⟩
                                · rw [if_neg c31] at H
                                  have c31b0 : ((rd l0 (ji25)) == (rd l1 (ji28))) = false := beq_eq_false_iff_ne.mpr c31
                                  have c31b1 : ((rd l0 (ji25)) != (rd l1 (ji28))) = true := bne_iff_ne.mpr c31
                                  obtain rfl := Option.some.inj H
                                  have hcz33_0 : wr.cell? ⟨gb150, 0, none⟩ = some (.int .i64 ((rd_T56 l3 x25_1).f0)) := (blk_cell BK150.out 0).trans rfl
                                  have hcz33_1 : wr.cell? ⟨gb150, 1, none⟩ = some (.int .i64 ((rd_T56 l3 x25_1).f1)) := (blk_cell BK150.out 1).trans rfl
                                  have hcz33_2 : wr.cell? ⟨gb150, 2, none⟩ = some (.int .i64 ((rd_T56 l3 x25_1).f2)) := (blk_cell BK150.out 2).trans rfl
                                  have hfz33_0 := blk_frozen BK150.out 0
                                  have hfz33_1 := blk_frozen BK150.out 1
                                  have hfz33_2 := blk_frozen BK150.out 2
                                  have p151 : 0 ≤ ((ji25) : Int) := of_decide_eq_true (by first | (with_reducible assumption) | assumption)
                                  have q151 : (ji25) < (l0.length : Int) := of_decide_eq_true (by first | (with_reducible assumption) | assumption)
                                  obtain ⟨ad151, e151, hx151_0⟩ := Kd.at_int HR0.out (ji25) p151 q151
                                  cases e151
                                  replace hx151_0 := (HB.out.cell (World.block_lt_of_cell? w _ hx151_0)).trans hx151_0
                                  replace p151 := eq_true p151
                                  replace q151 := eq_true q151
                                  have p152 : 0 ≤ ((ji28) : Int) := of_decide_eq_true (by first | (with_reducible assumption) | assumption)
                                  have q152 : (ji28) < (l1.length : Int) := of_decide_eq_true (by first | (with_reducible assumption) | assumption)
                                  obtain ⟨ad152, e152, hx152_0⟩ := Kd.at_int HR1.out (ji28) p152 q152
                                  cases e152
                                  replace hx152_0 := (HB.out.cell (World.block_lt_of_cell? w _ hx152_0)).trans hx152_0
                                  replace p152 := eq_true p152
                                  replace q152 := eq_true q152
                                  go_wp2
                                  repeat (go_quiet (fail); try go_wp2)
                                  go_ret
                                  exact ⟨by first | rfl | (simp [errW_none, errW_some] <;> rfl) | (simp only [← hji25, ← hji28]; first | rfl | (simp [errW_none, errW_some] <;> rfl)) | (simp [*, errW_none, errW_some] <;> rfl), by repeat (first | (with_reducible first | exact HB.out | apply below_alloc | apply pw_below_drewN | apply below_drew1 | refine below_set ?_ GE150.out) | exact HB.out)⟩
                              · rw [if_neg c30] at H
                                exact absurd H (by simp)
                            · rw [if_neg c29] at H
                              exact absurd H (by simp)
                          · rw [if_neg c27] at H
                            exact absurd H (by simp)
                        · rw [if_neg c26] at H
                          exact absurd H (by simp)
                      · rw [if_neg c24] at H
                        have c24b0 : decide (x66_3 < ((rd_T56 l3 x25_1).f2)) = false := decide_eq_false c24
                        clear c24
                        have H' := Aside0.mk H
                        clear H
                        have hcz34_0 : wr.cell? ⟨gb150, 0, none⟩ = some (.int .i64 ((rd_T56 l3 x25_1).f0)) := (blk_cell BK150.out 0).trans rfl
                        have hcz34_1 : wr.cell? ⟨gb150, 1, none⟩ = some (.int .i64 ((rd_T56 l3 x25_1).f1)) := (blk_cell BK150.out 1).trans rfl
                        have hcz34_2 : wr.cell? ⟨gb150, 2, none⟩ = some (.int .i64 ((rd_T56 l3 x25_1).f2)) := (blk_cell BK150.out 2).trans rfl
                        have hfz34_0 := blk_frozen BK150.out 0
                        have hfz34_1 := blk_frozen BK150.out 1
                        have hfz34_2 := blk_frozen BK150.out 2
                        go_wp2
                        repeat (go_quiet (fail); try go_wp2)
                        go_roundg k3
                        case measure => have := HK1.out; have := HJ9.out; have := HK3.out; omega
                        case rel => exact ⟨(wrap64 (x9_1 - ((rd_T56 l3 x25_1).f2))), (wrap64 (((rd_T56 l3 x25_1).f0) + ((rd_T56 l3 x25_1).f2))), (wrap64 (((rd_T56 l3 x25_1).f1) + ((rd_T56 l3 x25_1).f2))), (wrap64 (x25_1 + 1)), (by first | rfl | (simp; done) | (simp [*]; done)), (by first | rfl | (simp; done) | (simp [*]; done)), (by first | rfl | (simp; done) | (simp [*]; done)), (by first | rfl | (simp; done) | (simp [*]; done)), H', ⟨by have := HK1.out; have := HJ9.out; have := HK3.out; omega⟩, ⟨by repeat (first | (with_reducible first | exact HB.out | apply below_alloc | apply pw_below_drewN | apply below_drew1 | refine below_set ?_ GE150.out) | exact HB.out)⟩⟩
          · rw [if_neg c9] at H
            exact absurd H (by simp)
        · rw [if_neg c8] at H
          exact absurd H (by simp)
      · rw [if_neg c7] at H
        have c7b0 : decide (x25_1 < (l3.length : Int)) = false := decide_eq_false c7
        clear c7
        by_cases c35 : t148 = true
        · subst c35
          have H1 : (some (x9_1 == 0)) = some r := by rw [if_pos rfl] at H; exact H
          clear H
          have H := H1
          clear H1
          obtain rfl := Option.some.inj H
          go_wp2
          repeat (go_quiet (fail); try go_wp2)
          go_ret
          exact ⟨by first | rfl | (simp [errW_none, errW_some] <;> rfl) | (simp [*, errW_none, errW_some] <;> rfl), by repeat (first | (with_reducible first | exact HB.out | apply below_alloc | apply pw_below_drewN | apply below_drew1) | exact HB.out)⟩
        · replace c35 := Bool.eq_false_iff.mpr c35
          subst c35
          have H1 : (some false) = some r := by rw [if_neg (show ¬ (false = true) by decide)] at H; exact H
          clear H
          have H := H1
          clear H1
          obtain rfl := Option.some.inj H
          go_wp2
          repeat (go_quiet (fail); try go_wp2)
          go_ret
          exact ⟨by first | rfl | (simp [errW_none, errW_some] <;> rfl) | (simp [*, errW_none, errW_some] <;> rfl), by repeat (first | (with_reducible first | exact HB.out | apply below_alloc | apply pw_below_drewN | apply below_drew1) | exact HB.out)⟩

/-! ### spec_OfBytes: function 15 -/
def spec_OfBytes.l0 : Nat → List Int → List Int → Int → Int → Option (List Int)
  | 0, _, _, _, _ => none
  | k + 1, x3, x7, x8, x9 => if x9 < x8 then (if 0 ≤ x9 then (if x9 < (x7.length : Int) then (if x3.length < 17592186044416 then (spec_OfBytes.l0 k (x3 ++ [wrap64 (rd x7 x9)]) x7 x8 (wrap64 (x9 + 1))) else (none)) else (none)) else (none)) else (some x3)
def spec_OfBytes.f (k : Nat) (l0 : List Int) : Option (List Int) := spec_OfBytes.l0 k (([] : List Int)) l0 (l0.length : Int) 0
theorem spec_OfBytes.mono_l : ∀ k, (∀ y0 y1 y2 y3, LeO (spec_OfBytes.l0 k y0 y1 y2 y3) (spec_OfBytes.l0 (k + 1) y0 y1 y2 y3))
  | 0 => fun _ _ _ _ r h => by simp [spec_OfBytes.l0] at h
  | k + 1 => by
    have ih0 := spec_OfBytes.mono_l k
    · intro y0 y1 y2 y3
      unfold spec_OfBytes.l0
      repeat' first
      | (with_reducible exact ih0 _ _ _ _)
      | (with_reducible exact LeO.refl _)
      | (with_reducible exact LeO.none _)
      | (with_reducible refine LeO.ite ?_ ?_)
      | (with_reducible refine LeO.bind ?_ (fun _ => ?_))
      | exact ih0 _ _ _ _
      | exact LeO.none _
      | refine LeO.ite ?_ ?_
      | refine LeO.bind ?_ (fun _ => ?_)
theorem spec_OfBytes.mono : ∀ a0 k, LeO (spec_OfBytes.f k a0) (spec_OfBytes.f (k + 1) a0) := by
  intro a0 k
  have ih0 := spec_OfBytes.mono_l k
  unfold spec_OfBytes.f
  repeat' first
      | (with_reducible exact ih0 _ _ _ _)
      | (with_reducible exact LeO.refl _)
      | (with_reducible exact LeO.none _)
      | (with_reducible refine LeO.ite ?_ ?_)
      | (with_reducible refine LeO.bind ?_ (fun _ => ?_))
      | exact ih0 _ _ _ _
      | exact LeO.none _
      | refine LeO.ite ?_ ?_
      | refine LeO.bind ?_ (fun _ => ?_)
set_option maxHeartbeats 8000000 in
set_option maxRecDepth 100000 in
theorem spec_OfBytes.calls (k : Nat) (A0 : Option Addr) (c0 : Nat) (l0 : List Int) (r : List Int) (w : World) (hr0 : Kd.C (Kd.int .u8) w A0 l0.length l0) (hc0 : l0.length ≤ c0) (h : spec_OfBytes.f k l0 = some r) :
    Calls Try.prog 15 #[.slice A0 l0.length c0] w fun e w' => ∃ v0_ : Value, e = .returned (v0_) ∧ Kd.R (Kd.int .i64) 3 w' w.heap.size (fun _ => True) v0_ r ∧ Below w.heap.size w w' := by
  have HR0 := Aside0.mk hr0
  have HC0 := Aside0.mk hc0
  clear hr0 hc0
  have HB := Aside0.mk (Below.refl w.heap.size w)
  have H : (spec_OfBytes.l0 k (([] : List Int)) l0 (l0.length : Int) 0) = some r := h
  clear h
  obtain ⟨y153, hy153⟩ : ∃ y_ : List Int, y_ = (([] : List Int)) := ⟨_, rfl⟩
  replace H : (spec_OfBytes.l0 k y153 l0 (l0.length : Int) 0) = some r := by first | (rw [hy153]; with_reducible exact H) | (have H2_ := (Option.bind_some _ _).symm.trans H; rw [hy153]; with_reducible exact H2_) | (have H2_ := (Option.bind_some _ _).symm.trans H; with_reducible exact H2_) | with_reducible exact H | (rw [hy153]; exact H) | exact H
  have Ny153 := Aside0.mk hy153
  clear hy153
  have H' := Aside0.mk H
  clear H
  go_enter Try.func15, Try.ntmps15
  go_wp2_with (first | ((with_reducible refine gate_dst (N := 6) rfl ?_); refine Kd.R_lit (Kd.int .i64) _ 3 ?hg (N := 6) ?hd (xs := ([] : List Int)) (inner := []) (ok := fun _ => True) (okp := fun _ => True) ?hr ?hp (fun _ hk => hk) trivial (Below.refl _ _) (Nat.le_refl _) (by simp) ?_; (case hd => rfl); (case hg => rfl); (case hr => first | (go_simp; done) | (go_simp; rfl)); (case hp => exact (Reps.none _ _)); intro v154 w2 ho3 hb hg_ hnew_; clear hg_ hnew_; (first | rw [← Ny153.out] at ho3 | (simp only [Int.reduceToNat] at ho3; rw [← Ny153.out] at ho3)); have n0_ := Aside0.mk (Kd.R_lower ho3 (below_size (by repeat (first | (with_reducible first | exact HB.out | apply below_alloc | apply pw_below_drewN | apply below_drew1) | exact HB.out)))); have n1_ := Aside0.mk (below_step (by repeat (first | (with_reducible first | exact HB.out | apply below_alloc | apply pw_below_drewN | apply below_drew1) | exact HB.out)) hb); clear HB; have HO155 := n0_; have HB := n1_; clear n0_ n1_; clear hb ho3))
  go_loopg [3, 9] k (fun kq v3 v9 w' => ∃ (x3_1 : List Int) (x9_1 : Int), v9 = .int .i64 x9_1 ∧ Aside0 (spec_OfBytes.l0 kq x3_1 l0 (l0.length : Int) x9_1 = some r) ∧ Aside0 (kq ≤ k) ∧ Aside0 (Kd.R (Kd.int .i64) 3 w' w.heap.size (fun _ => True) v3 x3_1) ∧ Aside0 (Below w.heap.size w w'))
  case atStart => exact ⟨(y153), (0), (by first | rfl | (simp; done) | (simp [*]; done)), H', ⟨Nat.le_refl _⟩, ⟨by (with_reducible repeat (first | apply Kd.R_alloc | apply Kd.R_drewN | apply Kd.R_drew)); exact HO155.out⟩, ⟨by repeat (first | (with_reducible first | exact HB.out | apply below_alloc | apply pw_below_drewN | apply below_drew1) | exact HB.out)⟩⟩
  case round =>
    clear H'
    try clear c1
    try clear p2
    obtain ⟨x3_1, x9_1, rfl, HA, HK1, HO_3, HB⟩ := hrel
    cases gk with
    | zero => exact absurd HA.out (by simp [spec_OfBytes.l0])
    | succ k1 =>
      have H := HA.out
      clear HA
      simp only [spec_OfBytes.l0] at H
      by_cases c4 : x9_1 < (l0.length : Int)
      · rw [if_pos c4] at H
        have c4b0 : decide (x9_1 < (l0.length : Int)) = true := decide_eq_true c4
        clear c4
        by_cases c5 : 0 ≤ x9_1
        · rw [if_pos c5] at H
          have c5b0 : decide (0 ≤ x9_1) = true := decide_eq_true c5
          clear c5
          by_cases c6 : x9_1 < (l0.length : Int)
          · rw [if_pos c6] at H
            have c6b0 : decide (x9_1 < (l0.length : Int)) = true := decide_eq_true c6
            clear c6
            by_cases c7 : x3_1.length < 17592186044416
            · rw [if_pos c7] at H
              have LMc7 := Aside0.mk c7
              clear c7
              obtain ⟨y157, hy157⟩ : ∃ y_ : List Int, y_ = (x3_1 ++ [wrap64 (rd l0 x9_1)]) := ⟨_, rfl⟩
              replace H : (spec_OfBytes.l0 k1 y157 l0 (l0.length : Int) (wrap64 (x9_1 + 1))) = some r := by first | (rw [hy157]; with_reducible exact H) | (have H2_ := (Option.bind_some _ _).symm.trans H; rw [hy157]; with_reducible exact H2_) | (have H2_ := (Option.bind_some _ _).symm.trans H; with_reducible exact H2_) | with_reducible exact H | (rw [hy157]; exact H) | exact H
              have Ny157 := Aside0.mk hy157
              clear hy157
              have H' := Aside0.mk H
              clear H
              have p156 : 0 ≤ (x9_1 : Int) := of_decide_eq_true (by first | (with_reducible assumption) | assumption)
              have q156 : x9_1 < (l0.length : Int) := of_decide_eq_true (by first | (with_reducible assumption) | assumption)
              obtain ⟨ad156, e156, hx156_0⟩ := Kd.at_int HR0.out x9_1 p156 q156
              cases e156
              replace hx156_0 := (HB.out.cell (World.block_lt_of_cell? w _ hx156_0)).trans hx156_0
              replace p156 := eq_true p156
              replace q156 := eq_true q156
              go_wp2_with (first | ((with_reducible refine gate_builtin (b := .append) (xs := #[.tmp 13, .tmp 16]) rfl ?_); at_builtin; refine Kd.R_append (Kd.int .i64) (w0 := w) w.heap.size rfl (.tmp 13) (.tmp 16) 36 3 (.int .i64 0) 8 rfl Try.underlying36 info3 rfl (by decide) (by omega) u3 x3_1 (wrap64 (rd l0 x9_1)) [.int .i64 (wrap64 (rd l0 x9_1))] (fun _ => True) (fun _ => False) rfl rfl ?aP (fun _ hk => hk.elim) ?aF ?aO ?aB ?aS ?aL ?_; (case aP => exact rfl); (case aB => exact (by repeat (first | (with_reducible first | exact HB.out | apply below_alloc | apply pw_below_drewN | apply below_drew1) | exact HB.out))); (case aF => exact (fun _ _ => trivial)); (case aO => exact (by (with_reducible repeat (first | apply Kd.R_alloc | apply Kd.R_drewN | apply Kd.R_drew)); exact HO_3.out)); (case aS => exact (below_size (by repeat (first | (with_reducible first | exact HB.out | apply below_alloc | apply pw_below_drewN | apply below_drew1) | exact HB.out)))); (case aL => have := LMc7.out; omega); intro v158 w8 ho hb hg hat; rw [← Ny157.out] at ho; have n0_ := Aside0.mk (hb); have n1_ := Aside0.mk (ho); clear HB; clear HO_3; have HB := n0_; have HO159 := n1_; clear n0_ n1_; clear ho hb hg hat))
              go_roundg k1
              case measure => have := HK1.out; omega
              case rel => exact ⟨(y157), (wrap64 (x9_1 + 1)), (by first | rfl | (simp; done) | (simp [*]; done)), H', ⟨by have := HK1.out; omega⟩, ⟨by (with_reducible repeat (first | apply Kd.R_alloc | apply Kd.R_drewN | apply Kd.R_drew)); exact HO159.out⟩, ⟨by repeat (first | (with_reducible first | exact HB.out | apply below_alloc | apply pw_below_drewN | apply below_drew1) | exact HB.out)⟩⟩
            · rw [if_neg c7] at H
              exact absurd H (by simp)
          · rw [if_neg c6] at H
            exact absurd H (by simp)
        · rw [if_neg c5] at H
          exact absurd H (by simp)
      · rw [if_neg c4] at H
        have c4b0 : decide (x9_1 < (l0.length : Int)) = false := decide_eq_false c4
        clear c4
        obtain rfl := Option.some.inj H
        go_wp2
        go_ret
        exact ⟨_, by first | rfl | (simp [errW_none, errW_some] <;> rfl) | (simp [*, errW_none, errW_some] <;> rfl), by (with_reducible repeat (first | apply Kd.R_alloc | apply Kd.R_drewN | apply Kd.R_drew)); exact HO_3.out, by repeat (first | (with_reducible first | exact HB.out | apply below_alloc | apply pw_below_drewN | apply below_drew1) | exact HB.out)⟩

-- NOT PRINTED: function 4 (laws_FnBackwardLead)

end Go.Proofs.Ytonajgipkpnpoaa.QFnBackwardLead
