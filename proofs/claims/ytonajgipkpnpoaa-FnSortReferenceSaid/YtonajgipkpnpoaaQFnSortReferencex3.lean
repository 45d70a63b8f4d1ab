-- Written by a program of this session, after the kit's printer.
import Derived.Test.YtonajgipkpnpoaaQFnSortReferencex0
import Derived.Test.YtonajgipkpnpoaaQFnSortReferencex1
import Derived.Test.YtonajgipkpnpoaaQFnSortReferencex2
import Derived.Test.YtonajgipkpnpoaaSortV
import Derived.Test.YtonajgipkpnpoaaCopyK
import Derived.StillTailTactics
import Derived.Deep.CutBlock
import Derived.IntWalk
import Derived.Lib.Hide
namespace Go.Proofs.Ytonajgipkpnpoaa.QFnSortReference
open Go.RowKit Go.Proofs.YtonajgipkpnpoaaW.PrintWords Go.Proofs.YtonajgipkpnpoaaW.PrintLast Go.Proofs.YtonajgipkpnpoaaW.PrintMore
attribute [local go_sem] max2_int min2_int max_two min_two max_three min_three max_four min_four   -- for this text's walks alone
set_option linter.unusedVariables false
set_option linter.unusedSimpArgs false

attribute [local go_sem high] eqA28
/-! ### spec_AreNear: function 10 -/
def spec_AreNear.l0 : Nat → List (S28) → Int → Int → Option (Bool)
  | 0, _, _, _ => none
  | k + 1, x5, x6, x7 => if x7 < x6 then (if 0 ≤ x7 then (if x7 < (x5.length : Int) then (if ((rd_T28 x5 x7).f0) < (-1099511627776) then (some false) else (if ((rd_T28 x5 x7).f0) > 1099511627776 then (some false) else (if ((rd_T28 x5 x7).f1) < (-1099511627776) then (some false) else (if ((rd_T28 x5 x7).f1) > 1099511627776 then (some false) else (spec_AreNear.l0 k x5 x6 (wrap64 (x7 + 1))))))) else (none)) else (none)) else (some true)
def spec_AreNear.f (k : Nat) (l0 : List (S28)) : Option (Bool) := spec_AreNear.l0 k l0 (l0.length : Int) 0
theorem spec_AreNear.mono_l : ∀ k, (∀ y0 y1 y2, LeO (spec_AreNear.l0 k y0 y1 y2) (spec_AreNear.l0 (k + 1) y0 y1 y2))
  | 0 => fun _ _ _ r h => by simp [spec_AreNear.l0] at h
  | k + 1 => by
    have ih0 := spec_AreNear.mono_l k
    · intro y0 y1 y2
      unfold spec_AreNear.l0
      repeat' first
      | (with_reducible exact ih0 _ _ _)
      | (with_reducible exact LeO.refl _)
      | (with_reducible exact LeO.none _)
      | (with_reducible refine LeO.ite ?_ ?_)
      | (with_reducible refine LeO.bind ?_ (fun _ => ?_))
      | exact ih0 _ _ _
      | exact LeO.none _
      | refine LeO.ite ?_ ?_
      | refine LeO.bind ?_ (fun _ => ?_)
theorem spec_AreNear.mono : ∀ a0 k, LeO (spec_AreNear.f k a0) (spec_AreNear.f (k + 1) a0) := by
  intro a0 k
  have ih0 := spec_AreNear.mono_l k
  unfold spec_AreNear.f
  repeat' first
      | (with_reducible exact ih0 _ _ _)
      | (with_reducible exact LeO.refl _)
      | (with_reducible exact LeO.none _)
      | (with_reducible refine LeO.ite ?_ ?_)
      | (with_reducible refine LeO.bind ?_ (fun _ => ?_))
      | exact ih0 _ _ _
      | exact LeO.none _
      | refine LeO.ite ?_ ?_
      | refine LeO.bind ?_ (fun _ => ?_)
set_option maxHeartbeats 8000000 in
set_option maxRecDepth 100000 in
theorem spec_AreNear.calls (k : Nat) (A0 : Option Addr) (c0 : Nat) (l0 : List (S28)) (r : Bool) (w : World) (hr0 : Kd.C k28 w A0 l0.length l0) (hc0 : l0.length ≤ c0) (h : spec_AreNear.f k l0 = some r) :
    Calls Try.prog 10 #[.slice A0 l0.length c0] w fun e w' => e = .returned (.bool r) ∧ Below w.heap.size w w' := by
  have hu28 := Try.underlying28
  have HR0 := Aside0.mk hr0
  have HC0 := Aside0.mk hc0
  clear hr0 hc0
  have HB := Aside0.mk (Below.refl w.heap.size w)
  have H : (spec_AreNear.l0 k l0 (l0.length : Int) 0) = some r := h
  clear h
  have H' := Aside0.mk H
  clear H
  go_enter Try.func10, Try.ntmps10
  go_wp2
  go_loopg [7] k (fun kq v7 w' => ∃ (x7_1 : Int), v7 = .int .i64 x7_1 ∧ Aside0 (spec_AreNear.l0 kq l0 (l0.length : Int) x7_1 = some r) ∧ Aside0 (kq ≤ k) ∧ Aside0 (Below w.heap.size w w'))
  case atStart => exact ⟨(0), (by first | rfl | (simp; done) | (simp [*]; done)), H', ⟨Nat.le_refl _⟩, ⟨by repeat (first | (with_reducible first | exact HB.out | apply below_alloc | apply pw_below_drewN | apply below_drew1) | exact HB.out)⟩⟩
  case round =>
    clear H'
    try clear c1
    obtain ⟨x7_1, rfl, HA, HK1, HB⟩ := hrel
    cases gk with
    | zero => exact absurd HA.out (by simp [spec_AreNear.l0])
    | succ k1 =>
      have H := HA.out
      clear HA
      simp only [spec_AreNear.l0] at H
      by_cases c2 : x7_1 < (l0.length : Int)
      · rw [if_pos c2] at H
        have c2b0 : decide (x7_1 < (l0.length : Int)) = true := decide_eq_true c2
        clear c2
        by_cases c3 : 0 ≤ x7_1
        · rw [if_pos c3] at H
          have c3b0 : decide (0 ≤ x7_1) = true := decide_eq_true c3
          clear c3
          by_cases c4 : x7_1 < (l0.length : Int)
          · rw [if_pos c4] at H
            have c4b0 : decide (x7_1 < (l0.length : Int)) = true := decide_eq_true c4
            clear c4
            by_cases c5 : ((rd_T28 l0 x7_1).f0) < (-1099511627776)
            · rw [if_pos c5] at H
              have c5b0 : decide (((rd_T28 l0 x7_1).f0) < (-1099511627776)) = true := decide_eq_true c5
              clear c5
              obtain rfl := Option.some.inj H
              have p124 : 0 ≤ (x7_1 : Int) := of_decide_eq_true (by first | (with_reducible assumption) | assumption)
              have q124 : x7_1 < (l0.length : Int) := of_decide_eq_true (by first | (with_reducible assumption) | assumption)
              obtain ⟨ad124, e124, hx124_0, hx124_1, hx124_2⟩ := at_T28 HR0.out x7_1 p124 q124
              cases e124
              replace hx124_0 := (HB.out.cell (World.block_lt_of_cell? w _ hx124_0)).trans hx124_0
              replace hx124_1 := (HB.out.cell (World.block_lt_of_cell? w _ hx124_1)).trans hx124_1
              replace hx124_2 := (HB.out.cell (World.block_lt_of_cell? w _ hx124_2)).trans hx124_2
              replace p124 := eq_true p124
              replace q124 := eq_true q124
              go_wp2_with (first | ((with_reducible refine gate_dst (N := 4) rfl ?_); refine box_event ?hg (N := 4) ?hd (cs := #[.int .i64 0, .int .i64 0, .string (⟨#[]⟩ : ByteArray)]) (t := 28) ?hr ?_; (case hd => rfl); (case hg => rfl); (case hr => first | (go_simp; done) | (go_simp; rfl)); intro gb125 hg w6 hbox hb; have n0_ := Aside0.mk (below_step (by repeat (first | (with_reducible first | exact HB.out | apply below_alloc | apply pw_below_drewN | apply below_drew1) | exact HB.out)) hb); have n1_ := Aside0.mk (hbox); have n2_ := Aside0.mk ((by rw [hg]; exact (below_size (by repeat (first | (with_reducible first | exact HB.out | apply below_alloc | apply pw_below_drewN | apply below_drew1) | exact HB.out))) : w.heap.size ≤ gb125)); have n3_ := Aside0.mk ((by rw [hg]; exact (below_size (by repeat (first | (with_reducible first | exact HB.out | apply below_alloc | apply pw_below_drewN | apply below_drew1) | exact HB.out))) : w.heap.size ≤ gb125)); clear HB; have HB := n0_; have BK125 := n1_; have GW125 := n2_; have GE125 := n3_; clear n0_ n1_ n2_ n3_; clear hb hbox hg; have hcz7_0 : w6.cell? ⟨gb125, 0, none⟩ = some (.int .i64 0) := (blk_cell BK125.out 0).trans rfl; have hcz7_1 : w6.cell? ⟨gb125, 1, none⟩ = some (.int .i64 0) := (blk_cell BK125.out 1).trans rfl; have hcz7_2 : w6.cell? ⟨gb125, 2, none⟩ = some (.string (⟨#[]⟩ : ByteArray)) := (blk_cell BK125.out 2).trans rfl; have hfz7_0 := blk_frozen BK125.out 0; have hfz7_1 := blk_frozen BK125.out 1; have hfz7_2 := blk_frozen BK125.out 2))
              go_ret
              exact ⟨by first | rfl | (simp [errW_none, errW_some] <;> rfl) | (simp [*, errW_none, errW_some] <;> rfl), by repeat (first | (with_reducible first | exact HB.out | apply below_alloc | apply pw_below_drewN | apply below_drew1 | refine below_set ?_ GE125.out) | exact HB.out)⟩
            · rw [if_neg c5] at H
              have c5b0 : decide (((rd_T28 l0 x7_1).f0) < (-1099511627776)) = false := decide_eq_false c5
              clear c5
              by_cases c8 : ((rd_T28 l0 x7_1).f0) > 1099511627776
              · rw [if_pos c8] at H
                have c8b0 : decide (1099511627776 < ((rd_T28 l0 x7_1).f0)) = true := decide_eq_true c8
                clear c8
                obtain rfl := Option.some.inj H
                have p124 : 0 ≤ (x7_1 : Int) := of_decide_eq_true (by first | (with_reducible assumption) | assumption)
                have q124 : x7_1 < (l0.length : Int) := of_decide_eq_true (by first | (with_reducible assumption) | assumption)
                obtain ⟨ad124, e124, hx124_0, hx124_1, hx124_2⟩ := at_T28 HR0.out x7_1 p124 q124
                cases e124
                replace hx124_0 := (HB.out.cell (World.block_lt_of_cell? w _ hx124_0)).trans hx124_0
                replace hx124_1 := (HB.out.cell (World.block_lt_of_cell? w _ hx124_1)).trans hx124_1
                replace hx124_2 := (HB.out.cell (World.block_lt_of_cell? w _ hx124_2)).trans hx124_2
                replace p124 := eq_true p124
                replace q124 := eq_true q124
                go_wp2_with (first | ((with_reducible refine gate_dst (N := 4) rfl ?_); refine box_event ?hg (N := 4) ?hd (cs := #[.int .i64 0, .int .i64 0, .string (⟨#[]⟩ : ByteArray)]) (t := 28) ?hr ?_; (case hd => rfl); (case hg => rfl); (case hr => first | (go_simp; done) | (go_simp; rfl)); intro gb125 hg w9 hbox hb; have n0_ := Aside0.mk (below_step (by repeat (first | (with_reducible first | exact HB.out | apply below_alloc | apply pw_below_drewN | apply below_drew1) | exact HB.out)) hb); have n1_ := Aside0.mk (hbox); have n2_ := Aside0.mk ((by rw [hg]; exact (below_size (by repeat (first | (with_reducible first | exact HB.out | apply below_alloc | apply pw_below_drewN | apply below_drew1) | exact HB.out))) : w.heap.size ≤ gb125)); have n3_ := Aside0.mk ((by rw [hg]; exact (below_size (by repeat (first | (with_reducible first | exact HB.out | apply below_alloc | apply pw_below_drewN | apply below_drew1) | exact HB.out))) : w.heap.size ≤ gb125)); clear HB; have HB := n0_; have BK125 := n1_; have GW125 := n2_; have GE125 := n3_; clear n0_ n1_ n2_ n3_; clear hb hbox hg; have hcz10_0 : w9.cell? ⟨gb125, 0, none⟩ = some (.int .i64 0) := (blk_cell BK125.out 0).trans rfl; have hcz10_1 : w9.cell? ⟨gb125, 1, none⟩ = some (.int .i64 0) := (blk_cell BK125.out 1).trans rfl; have hcz10_2 : w9.cell? ⟨gb125, 2, none⟩ = some (.string (⟨#[]⟩ : ByteArray)) := (blk_cell BK125.out 2).trans rfl; have hfz10_0 := blk_frozen BK125.out 0; have hfz10_1 := blk_frozen BK125.out 1; have hfz10_2 := blk_frozen BK125.out 2))
                go_ret
                exact ⟨by first | rfl | (simp [errW_none, errW_some] <;> rfl) | (simp [*, errW_none, errW_some] <;> rfl), by repeat (first | (with_reducible first | exact HB.out | apply below_alloc | apply pw_below_drewN | apply below_drew1 | refine below_set ?_ GE125.out) | exact HB.out)⟩
              · rw [if_neg c8] at H
                have c8b0 : decide (1099511627776 < ((rd_T28 l0 x7_1).f0)) = false := decide_eq_false c8
                clear c8
                by_cases c11 : ((rd_T28 l0 x7_1).f1) < (-1099511627776)
                · rw [if_pos c11] at H
                  have c11b0 : decide (((rd_T28 l0 x7_1).f1) < (-1099511627776)) = true := decide_eq_true c11
                  clear c11
                  obtain rfl := Option.some.inj H
                  have p124 : 0 ≤ (x7_1 : Int) := of_decide_eq_true (by first | (with_reducible assumption) | assumption)
                  have q124 : x7_1 < (l0.length : Int) := of_decide_eq_true (by first | (with_reducible assumption) | assumption)
                  obtain ⟨ad124, e124, hx124_0, hx124_1, hx124_2⟩ := at_T28 HR0.out x7_1 p124 q124
                  cases e124
                  replace hx124_0 := (HB.out.cell (World.block_lt_of_cell? w _ hx124_0)).trans hx124_0
                  replace hx124_1 := (HB.out.cell (World.block_lt_of_cell? w _ hx124_1)).trans hx124_1
                  replace hx124_2 := (HB.out.cell (World.block_lt_of_cell? w _ hx124_2)).trans hx124_2
                  replace p124 := eq_true p124
                  replace q124 := eq_true q124
                  go_wp2_with (first | ((with_reducible refine gate_dst (N := 4) rfl ?_); refine box_event ?hg (N := 4) ?hd (cs := #[.int .i64 0, .int .i64 0, .string (⟨#[]⟩ : ByteArray)]) (t := 28) ?hr ?_; (case hd => rfl); (case hg => rfl); (case hr => first | (go_simp; done) | (go_simp; rfl)); intro gb125 hg w12 hbox hb; have n0_ := Aside0.mk (below_step (by repeat (first | (with_reducible first | exact HB.out | apply below_alloc | apply pw_below_drewN | apply below_drew1) | exact HB.out)) hb); have n1_ := Aside0.mk (hbox); have n2_ := Aside0.mk ((by rw [hg]; exact (below_size (by repeat (first | (with_reducible first | exact HB.out | apply below_alloc | apply pw_below_drewN | apply below_drew1) | exact HB.out))) : w.heap.size ≤ gb125)); have n3_ := Aside0.mk ((by rw [hg]; exact (below_size (by repeat (first | (with_reducible first | exact HB.out | apply below_alloc | apply pw_below_drewN | apply below_drew1) | exact HB.out))) : w.heap.size ≤ gb125)); clear HB; have HB := n0_; have BK125 := n1_; have GW125 := n2_; have GE125 := n3_; clear n0_ n1_ n2_ n3_; clear hb hbox hg; have hcz13_0 : w12.cell? ⟨gb125, 0, none⟩ = some (.int .i64 0) := (blk_cell BK125.out 0).trans rfl; have hcz13_1 : w12.cell? ⟨gb125, 1, none⟩ = some (.int .i64 0) := (blk_cell BK125.out 1).trans rfl; have hcz13_2 : w12.cell? ⟨gb125, 2, none⟩ = some (.string (⟨#[]⟩ : ByteArray)) := (blk_cell BK125.out 2).trans rfl; have hfz13_0 := blk_frozen BK125.out 0; have hfz13_1 := blk_frozen BK125.out 1; have hfz13_2 := blk_frozen BK125.out 2))
                  go_ret
                  exact ⟨by first | rfl | (simp [errW_none, errW_some] <;> rfl) | (simp [*, errW_none, errW_some] <;> rfl), by repeat (first | (with_reducible first | exact HB.out | apply below_alloc | apply pw_below_drewN | apply below_drew1 | refine below_set ?_ GE125.out) | exact HB.out)⟩
                · rw [if_neg c11] at H
                  have c11b0 : decide (((rd_T28 l0 x7_1).f1) < (-1099511627776)) = false := decide_eq_false c11
                  clear c11
                  by_cases c14 : ((rd_T28 l0 x7_1).f1) > 1099511627776
                  · rw [if_pos c14] at H
                    have c14b0 : decide (1099511627776 < ((rd_T28 l0 x7_1).f1)) = true := decide_eq_true c14
                    clear c14
                    obtain rfl := Option.some.inj H
                    have p124 : 0 ≤ (x7_1 : Int) := of_decide_eq_true (by first | (with_reducible assumption) | assumption)
                    have q124 : x7_1 < (l0.length : Int) := of_decide_eq_true (by first | (with_reducible assumption) | assumption)
                    obtain ⟨ad124, e124, hx124_0, hx124_1, hx124_2⟩ := at_T28 HR0.out x7_1 p124 q124
                    cases e124
                    replace hx124_0 := (HB.out.cell (World.block_lt_of_cell? w _ hx124_0)).trans hx124_0
                    replace hx124_1 := (HB.out.cell (World.block_lt_of_cell? w _ hx124_1)).trans hx124_1
                    replace hx124_2 := (HB.out.cell (World.block_lt_of_cell? w _ hx124_2)).trans hx124_2
                    replace p124 := eq_true p124
                    replace q124 := eq_true q124
                    go_wp2_with (first | ((with_reducible refine gate_dst (N := 4) rfl ?_); refine box_event ?hg (N := 4) ?hd (cs := #[.int .i64 0, .int .i64 0, .string (⟨#[]⟩ : ByteArray)]) (t := 28) ?hr ?_; (case hd => rfl); (case hg => rfl); (case hr => first | (go_simp; done) | (go_simp; rfl)); intro gb125 hg w15 hbox hb; have n0_ := Aside0.mk (below_step (by repeat (first | (with_reducible first | exact HB.out | apply below_alloc | apply pw_below_drewN | apply below_drew1) | exact HB.out)) hb); have n1_ := Aside0.mk (hbox); have n2_ := Aside0.mk ((by rw [hg]; exact (below_size (by repeat (first | (with_reducible first | exact HB.out | apply below_alloc | apply pw_below_drewN | apply below_drew1) | exact HB.out))) : w.heap.size ≤ gb125)); have n3_ := Aside0.mk ((by rw [hg]; exact (below_size (by repeat (first | (with_reducible first | exact HB.out | apply below_alloc | apply pw_below_drewN | apply below_drew1) | exact HB.out))) : w.heap.size ≤ gb125)); clear HB; have HB := n0_; have BK125 := n1_; have GW125 := n2_; have GE125 := n3_; clear n0_ n1_ n2_ n3_; clear hb hbox hg; have hcz16_0 : w15.cell? ⟨gb125, 0, none⟩ = some (.int .i64 0) := (blk_cell BK125.out 0).trans rfl; have hcz16_1 : w15.cell? ⟨gb125, 1, none⟩ = some (.int .i64 0) := (blk_cell BK125.out 1).trans rfl; have hcz16_2 : w15.cell? ⟨gb125, 2, none⟩ = some (.string (⟨#[]⟩ : ByteArray)) := (blk_cell BK125.out 2).trans rfl; have hfz16_0 := blk_frozen BK125.out 0; have hfz16_1 := blk_frozen BK125.out 1; have hfz16_2 := blk_frozen BK125.out 2))
                    go_ret
                    exact ⟨by first | rfl | (simp [errW_none, errW_some] <;> rfl) | (simp [*, errW_none, errW_some] <;> rfl), by repeat (first | (with_reducible first | exact HB.out | apply below_alloc | apply pw_below_drewN | apply below_drew1 | refine below_set ?_ GE125.out) | exact HB.out)⟩
                  · rw [if_neg c14] at H
                    have c14b0 : decide (1099511627776 < ((rd_T28 l0 x7_1).f1)) = false := decide_eq_false c14
                    clear c14
                    have H' := Aside0.mk H
                    clear H
                    have p124 : 0 ≤ (x7_1 : Int) := of_decide_eq_true (by first | (with_reducible assumption) | assumption)
                    have q124 : x7_1 < (l0.length : Int) := of_decide_eq_true (by first | (with_reducible assumption) | assumption)
                    obtain ⟨ad124, e124, hx124_0, hx124_1, hx124_2⟩ := at_T28 HR0.out x7_1 p124 q124
                    cases e124
                    replace hx124_0 := (HB.out.cell (World.block_lt_of_cell? w _ hx124_0)).trans hx124_0
                    replace hx124_1 := (HB.out.cell (World.block_lt_of_cell? w _ hx124_1)).trans hx124_1
                    replace hx124_2 := (HB.out.cell (World.block_lt_of_cell? w _ hx124_2)).trans hx124_2
                    replace p124 := eq_true p124
                    replace q124 := eq_true q124
                    go_wp2_with (first | ((with_reducible refine gate_dst (N := 4) rfl ?_); refine box_event ?hg (N := 4) ?hd (cs := #[.int .i64 0, .int .i64 0, .string (⟨#[]⟩ : ByteArray)]) (t := 28) ?hr ?_; (case hd => rfl); (case hg => rfl); (case hr => first | (go_simp; done) | (go_simp; rfl)); intro gb125 hg w17 hbox hb; have n0_ := Aside0.mk (below_step (by repeat (first | (with_reducible first | exact HB.out | apply below_alloc | apply pw_below_drewN | apply below_drew1) | exact HB.out)) hb); have n1_ := Aside0.mk (hbox); have n2_ := Aside0.mk ((by rw [hg]; exact (below_size (by repeat (first | (with_reducible first | exact HB.out | apply below_alloc | apply pw_below_drewN | apply below_drew1) | exact HB.out))) : w.heap.size ≤ gb125)); have n3_ := Aside0.mk ((by rw [hg]; exact (below_size (by repeat (first | (with_reducible first | exact HB.out | apply below_alloc | apply pw_below_drewN | apply below_drew1) | exact HB.out))) : w.heap.size ≤ gb125)); clear HB; have HB := n0_; have BK125 := n1_; have GW125 := n2_; have GE125 := n3_; clear n0_ n1_ n2_ n3_; clear hb hbox hg; have hcz18_0 : w17.cell? ⟨gb125, 0, none⟩ = some (.int .i64 0) := (blk_cell BK125.out 0).trans rfl; have hcz18_1 : w17.cell? ⟨gb125, 1, none⟩ = some (.int .i64 0) := (blk_cell BK125.out 1).trans rfl; have hcz18_2 : w17.cell? ⟨gb125, 2, none⟩ = some (.string (⟨#[]⟩ : ByteArray)) := (blk_cell BK125.out 2).trans rfl; have hfz18_0 := blk_frozen BK125.out 0; have hfz18_1 := blk_frozen BK125.out 1; have hfz18_2 := blk_frozen BK125.out 2))
                    go_roundg k1
                    case measure => have := HK1.out; omega
                    case rel => exact ⟨(wrap64 (x7_1 + 1)), (by first | rfl | (simp; done) | (simp [*]; done)), H', ⟨by have := HK1.out; omega⟩, ⟨by repeat (first | (with_reducible first | exact HB.out | apply below_alloc | apply pw_below_drewN | apply below_drew1 | refine below_set ?_ GE125.out) | exact HB.out)⟩⟩
          · rw [if_neg c4] at H
            exact absurd H (by simp)
        · rw [if_neg c3] at H
          exact absurd H (by simp)
      · rw [if_neg c2] at H
        have c2b0 : decide (x7_1 < (l0.length : Int)) = false := decide_eq_false c2
        clear c2
        obtain rfl := Option.some.inj H
        go_wp2
        go_ret
        exact ⟨by first | rfl | (simp [errW_none, errW_some] <;> rfl) | (simp [*, errW_none, errW_some] <;> rfl), by repeat (first | (with_reducible first | exact HB.out | apply below_alloc | apply pw_below_drewN | apply below_drew1) | exact HB.out)⟩

/-! ### spec_SameEdits: function 11 -/
def spec_SameEdits.l0 : Nat → List (S28) → List (S28) → Int → Int → Option (Bool)
  | 0, _, _, _, _ => none
  | k + 1, x0, x1, x12, x13 => if x13 < x12 then (if 0 ≤ x13 then (if x13 < (x0.length : Int) then (if x13 < (x1.length : Int) then (if (!(((rd_T28 x0 x13).f0) == ((rd_T28 x1 x13).f0)) || (!(((rd_T28 x0 x13).f1) == ((rd_T28 x1 x13).f1)) || (!((((rd_T28 x0 x13).f2).toList) == (((rd_T28 x1 x13).f2).toList))))) = true then (some false) else (spec_SameEdits.l0 k x0 x1 x12 (wrap64 (x13 + 1)))) else (none)) else (none)) else (none)) else (some true)
def spec_SameEdits.f (k : Nat) (l0 : List (S28)) (l1 : List (S28)) : Option (Bool) := if (l0.length : Int) = (l1.length : Int) then (spec_SameEdits.l0 k l0 l1 (l0.length : Int) 0) else (some false)
theorem spec_SameEdits.mono_l : ∀ k, (∀ y0 y1 y2 y3, LeO (spec_SameEdits.l0 k y0 y1 y2 y3) (spec_SameEdits.l0 (k + 1) y0 y1 y2 y3))
  | 0 => fun _ _ _ _ r h => by simp [spec_SameEdits.l0] at h
  | k + 1 => by
    have ih0 := spec_SameEdits.mono_l k
    · intro y0 y1 y2 y3
      unfold spec_SameEdits.l0
      repeat' first
      | (with_reducible exact ih0 _ _ _ _)
      | (with_reducible exact LeO.refl _)
      | (with_reducible exact LeO.none _)
      | (with_reducible refine LeO.ite ?_ ?_)
      | (with_reducible refine LeO.bind ?_ (fun _ => ?_))
      | exact ih0 _ _ _ _
      | exact LeO.none _
      | refine LeO.ite ?_ ?_
      | refine LeO.bind ?_ (fun _ => ?_)
theorem spec_SameEdits.mono : ∀ a0 a1 k, LeO (spec_SameEdits.f k a0 a1) (spec_SameEdits.f (k + 1) a0 a1) := by
  intro a0 a1 k
  have ih0 := spec_SameEdits.mono_l k
  unfold spec_SameEdits.f
  repeat' first
      | (with_reducible exact ih0 _ _ _ _)
      | (with_reducible exact LeO.refl _)
      | (with_reducible exact LeO.none _)
      | (with_reducible refine LeO.ite ?_ ?_)
      | (with_reducible refine LeO.bind ?_ (fun _ => ?_))
      | exact ih0 _ _ _ _
      | exact LeO.none _
      | refine LeO.ite ?_ ?_
      | refine LeO.bind ?_ (fun _ => ?_)
set_option maxHeartbeats 8000000 in
set_option maxRecDepth 100000 in
theorem spec_SameEdits.calls (k : Nat) (A0 : Option Addr) (c0 : Nat) (l0 : List (S28)) (A1 : Option Addr) (c1 : Nat) (l1 : List (S28)) (r : Bool) (w : World) (hr0 : Kd.C k28 w A0 l0.length l0) (hc0 : l0.length ≤ c0) (hr1 : Kd.C k28 w A1 l1.length l1) (hc1 : l1.length ≤ c1) (h : spec_SameEdits.f k l0 l1 = some r) :
    Calls Try.prog 11 #[.slice A0 l0.length c0, .slice A1 l1.length c1] w fun e w' => e = .returned (.bool r) ∧ Drawn0 w w' := by
  have hu28 := Try.underlying28
  have HR0 := Aside0.mk hr0
  have HC0 := Aside0.mk hc0
  clear hr0 hc0
  have HR1 := Aside0.mk hr1
  have HC1 := Aside0.mk hc1
  clear hr1 hc1
  have H : (if (l0.length : Int) = (l1.length : Int) then (spec_SameEdits.l0 k l0 l1 (l0.length : Int) 0) else (some false)) = some r := h
  clear h
  by_cases c3 : (l0.length : Int) = (l1.length : Int)
  · rw [if_pos c3] at H
    have c3b0 : ((l0.length : Int) == (l1.length : Int)) = true := beq_iff_eq.mpr c3
    have c3b1 : ((l0.length : Int) != (l1.length : Int)) = false := bne_eq_false_iff_eq.mpr c3
    have c3b2 : (l0.length == l1.length) = true := by first | simpa using c3 | (simp at c3 ⊢; omega)
    clear c3
    have H' := Aside0.mk H
    clear H
    go_enter Try.func11, Try.ntmps11
    go_wp2
    repeat (go_quiet (fail); try go_wp2)
    go_loopg [13] k (fun kq v13 w' => ∃ (x13_1 : Int), v13 = .int .i64 x13_1 ∧ Aside0 (spec_SameEdits.l0 kq l0 l1 (l0.length : Int) x13_1 = some r) ∧ Aside0 (kq ≤ k) ∧ Drawn0 w w')
    case atStart => exact ⟨(0), (by first | rfl | (simp; done) | (simp [*]; done)), H', ⟨Nat.le_refl _⟩, by repeat (first | exact Drawn0.refl _ | apply Drawn0.step)⟩
    case round =>
      clear H'
      try clear c1
      try clear p2
      try clear c3
      try clear c3b0
      try clear c3b1
      try clear c3b2
      obtain ⟨x13_1, rfl, HA, HK1, ⟨m1, rfl⟩⟩ := hrel
      cases gk with
      | zero => exact absurd HA.out (by simp [spec_SameEdits.l0])
      | succ k1 =>
        have H := HA.out
        clear HA
        simp only [spec_SameEdits.l0] at H
        by_cases c4 : x13_1 < (l0.length : Int)
        · rw [if_pos c4] at H
          have c4b0 : decide (x13_1 < (l0.length : Int)) = true := decide_eq_true c4
          clear c4
          by_cases c5 : 0 ≤ x13_1
          · rw [if_pos c5] at H
            have c5b0 : decide (0 ≤ x13_1) = true := decide_eq_true c5
            clear c5
            by_cases c6 : x13_1 < (l0.length : Int)
            · rw [if_pos c6] at H
              have c6b0 : decide (x13_1 < (l0.length : Int)) = true := decide_eq_true c6
              clear c6
              by_cases c7 : x13_1 < (l1.length : Int)
              · rw [if_pos c7] at H
                have c7b0 : decide (x13_1 < (l1.length : Int)) = true := decide_eq_true c7
                clear c7
                by_cases c8 : (!(((rd_T28 l0 x13_1).f0) == ((rd_T28 l1 x13_1).f0)) || (!(((rd_T28 l0 x13_1).f1) == ((rd_T28 l1 x13_1).f1)) || (!((((rd_T28 l0 x13_1).f2).toList) == (((rd_T28 l1 x13_1).f2).toList))))) = true
                · rw [if_pos c8] at H
                  have c8b0 : (!(((rd_T28 l0 x13_1).f0) == ((rd_T28 l1 x13_1).f0)) || (!(((rd_T28 l0 x13_1).f1) == ((rd_T28 l1 x13_1).f1)) || (!((((rd_T28 l0 x13_1).f2).toList) == (((rd_T28 l1 x13_1).f2).toList))))) = true := c8
                  clear c8
                  obtain rfl := Option.some.inj H
                  have p126 : 0 ≤ (x13_1 : Int) := of_decide_eq_true (by first | (with_reducible assumption) | assumption)
                  have q126 : x13_1 < (l0.length : Int) := of_decide_eq_true (by first | (with_reducible assumption) | assumption)
                  obtain ⟨ad126, e126, hx126_0, hx126_1, hx126_2⟩ := at_T28 HR0.out x13_1 p126 q126
                  cases e126
                  replace p126 := eq_true p126
                  replace q126 := eq_true q126
                  have p127 : 0 ≤ (x13_1 : Int) := of_decide_eq_true (by first | (with_reducible assumption) | assumption)
                  have q127 : x13_1 < (l1.length : Int) := of_decide_eq_true (by first | (with_reducible assumption) | assumption)
                  obtain ⟨ad127, e127, hx127_0, hx127_1, hx127_2⟩ := at_T28 HR1.out x13_1 p127 q127
                  cases e127
                  replace p127 := eq_true p127
                  replace q127 := eq_true q127
                  go_wp2
                  repeat (go_quiet (fail); try go_wp2)
                  go_ret
                  exact ⟨by first | rfl | (simp; done) | (simp [*]; done), by repeat (first | exact Drawn0.refl _ | apply Drawn0.step)⟩
                · rw [if_neg c8] at H
                  have c8b0 : (!(((rd_T28 l0 x13_1).f0) == ((rd_T28 l1 x13_1).f0)) || (!(((rd_T28 l0 x13_1).f1) == ((rd_T28 l1 x13_1).f1)) || (!((((rd_T28 l0 x13_1).f2).toList) == (((rd_T28 l1 x13_1).f2).toList))))) = false := by simpa using c8
                  clear c8
                  have H' := Aside0.mk H
                  clear H
                  have p126 : 0 ≤ (x13_1 : Int) := of_decide_eq_true (by first | (with_reducible assumption) | assumption)
                  have q126 : x13_1 < (l0.length : Int) := of_decide_eq_true (by first | (with_reducible assumption) | assumption)
                  obtain ⟨ad126, e126, hx126_0, hx126_1, hx126_2⟩ := at_T28 HR0.out x13_1 p126 q126
                  cases e126
                  replace p126 := eq_true p126
                  replace q126 := eq_true q126
                  have p127 : 0 ≤ (x13_1 : Int) := of_decide_eq_true (by first | (with_reducible assumption) | assumption)
                  have q127 : x13_1 < (l1.length : Int) := of_decide_eq_true (by first | (with_reducible assumption) | assumption)
                  obtain ⟨ad127, e127, hx127_0, hx127_1, hx127_2⟩ := at_T28 HR1.out x13_1 p127 q127
                  cases e127
                  replace p127 := eq_true p127
                  replace q127 := eq_true q127
                  go_wp2
                  repeat (go_quiet (fail); try go_wp2)
                  go_roundg k1
                  case measure => have := HK1.out; omega
                  case rel => exact ⟨(wrap64 (x13_1 + 1)), (by first | rfl | (simp; done) | (simp [*]; done)), H', ⟨by have := HK1.out; omega⟩, by repeat (first | exact Drawn0.refl _ | apply Drawn0.step)⟩
              · rw [if_neg c7] at H
                exact absurd H (by simp)
            · rw [if_neg c6] at H
              exact absurd H (by simp)
          · rw [if_neg c5] at H
            exact absurd H (by simp)
        · rw [if_neg c4] at H
          have c4b0 : decide (x13_1 < (l0.length : Int)) = false := decide_eq_false c4
          clear c4
          obtain rfl := Option.some.inj H
          go_wp2
          repeat (go_quiet (fail); try go_wp2)
          go_ret
          exact ⟨by first | rfl | (simp; done) | (simp [*]; done), by repeat (first | exact Drawn0.refl _ | apply Drawn0.step)⟩
  · rw [if_neg c3] at H
    have c3b0 : ((l0.length : Int) == (l1.length : Int)) = false := beq_eq_false_iff_ne.mpr c3
    have c3b1 : ((l0.length : Int) != (l1.length : Int)) = true := bne_iff_ne.mpr c3
    have c3b2 : (l0.length == l1.length) = false := by first | simpa using c3 | (simp at c3 ⊢; omega)
    obtain rfl := Option.some.inj H
    go_enter Try.func11, Try.ntmps11
    go_wp2
    repeat (go_quiet (fail); try go_wp2)
    go_ret
    exact ⟨by first | rfl | (simp; done) | (simp [*]; done), by repeat (first | exact Drawn0.refl _ | apply Drawn0.step)⟩

/-! ### spec_Before: function 23 -/
def spec_Before.f (a0_0 : Int) (a0_1 : Int) (a0_2 : ByteArray) (a1_0 : Int) (a1_1 : Int) (a1_2 : ByteArray) : Option (Bool) := if a0_0 < a1_0 then (some true) else (if a0_0 = a1_0 then (some (decide (a0_1 < a1_1))) else (some false))
set_option maxHeartbeats 8000000 in
set_option maxRecDepth 100000 in
theorem spec_Before.calls (a0_0 : Int) (a0_1 : Int) (a0_2 : ByteArray) (a1_0 : Int) (a1_1 : Int) (a1_2 : ByteArray) (r : Bool) (w : World) (h : spec_Before.f a0_0 a0_1 a0_2 a1_0 a1_1 a1_2 = some r) :
    Calls Try.prog 23 #[.agg #[.int .i64 a0_0, .int .i64 a0_1, .string a0_2], .agg #[.int .i64 a1_0, .int .i64 a1_1, .string a1_2]] w fun e w' => e = .returned (.bool r) ∧ Below w.heap.size w w' := by
  have hu28 := Try.underlying28
  have HB := Aside0.mk (Below.refl w.heap.size w)
  have H : (if a0_0 < a1_0 then (some true) else (if a0_0 = a1_0 then (some (decide (a0_1 < a1_1))) else (some false))) = some r := h
  clear h
  by_cases c3 : a0_0 < a1_0
  · rw [if_pos c3] at H
    have c3b0 : decide (a0_0 < a1_0) = true := decide_eq_true c3
    clear c3
    obtain rfl := Option.some.inj H
    go_enter Try.func23, Try.ntmps23
    go_wp2_with (first | ((with_reducible refine gate_dst (N := 2) rfl ?_); refine box_event ?hg (N := 2) ?hd (cs := #[.int .i64 a0_0, .int .i64 a0_1, .string a0_2]) (t := 28) ?hr ?_; (case hd => rfl); (case hg => rfl); (case hr => first | (go_simp; done) | (go_simp; rfl)); intro gb128 hg w4 hbox hb; have n0_ := Aside0.mk (below_step (by repeat (first | (with_reducible first | exact HB.out | apply below_alloc | apply pw_below_drewN | apply below_drew1) | exact HB.out)) hb); have n1_ := Aside0.mk (hbox); have n2_ := Aside0.mk ((by rw [hg]; exact (below_size (by repeat (first | (with_reducible first | exact HB.out | apply below_alloc | apply pw_below_drewN | apply below_drew1) | exact HB.out))) : w.heap.size ≤ gb128)); have n3_ := Aside0.mk ((by rw [hg]; exact (below_size (by repeat (first | (with_reducible first | exact HB.out | apply below_alloc | apply pw_below_drewN | apply below_drew1) | exact HB.out))) : w.heap.size ≤ gb128)); clear HB; have HB := n0_; have BK128 := n1_; have GW128 := n2_; have GE128 := n3_; clear n0_ n1_ n2_ n3_; clear hb hbox hg) | ((with_reducible refine gate_dst (N := 3) rfl ?_); refine box_event ?hg (N := 3) ?hd (cs := #[.int .i64 a1_0, .int .i64 a1_1, .string a1_2]) (t := 28) ?hr ?_; (case hd => rfl); (case hg => rfl); (case hr => first | (go_simp; done) | (go_simp; rfl)); intro gb129 hg w5 hbox hb; have n0_ := Aside0.mk (blk_below (g := gb128) (o := .cells #[.int .i64 a0_0, .int .i64 a0_1, .string a0_2] 28 (0, 0)) (by (with_reducible repeat (first | refine blk_drewN ?_ _ | refine blk_drew ?_ | refine blk_alloc ?_ _)); exact BK128.out) hb); have n1_ := Aside0.mk (below_step (by repeat (first | (with_reducible first | exact HB.out | apply below_alloc | apply pw_below_drewN | apply below_drew1 | refine below_set ?_ GE128.out) | exact HB.out)) hb); have n2_ := Aside0.mk (hbox); have n3_ := Aside0.mk ((by rw [hg]; exact (below_size (by repeat (first | (with_reducible first | exact HB.out | apply below_alloc | apply pw_below_drewN | apply below_drew1 | refine below_set ?_ GE128.out) | exact HB.out))) : w.heap.size ≤ gb129)); have n4_ := Aside0.mk ((by rw [hg]; exact (below_size (by repeat (first | (with_reducible first | exact HB.out | apply below_alloc | apply pw_below_drewN | apply below_drew1 | refine below_set ?_ GE128.out) | exact HB.out))) : w.heap.size ≤ gb129)); have n5_ := Aside0.mk ((by rw [hg]; exact Nat.ne_of_lt (blk_lt (g := gb128) (o := .cells #[.int .i64 a0_0, .int .i64 a0_1, .string a0_2] 28 (0, 0)) (by (with_reducible repeat (first | refine blk_drewN ?_ _ | refine blk_drew ?_ | refine blk_alloc ?_ _)); exact BK128.out)) : gb128 ≠ gb129)); have n6_ := Aside0.mk ((by rw [hg]; exact Nat.ne_of_gt (blk_lt (g := gb128) (o := .cells #[.int .i64 a0_0, .int .i64 a0_1, .string a0_2] 28 (0, 0)) (by (with_reducible repeat (first | refine blk_drewN ?_ _ | refine blk_drew ?_ | refine blk_alloc ?_ _)); exact BK128.out)) : gb129 ≠ gb128)); clear BK128; clear HB; have BK128 := n0_; have HB := n1_; have BK129 := n2_; have GW129 := n3_; have GE129 := n4_; have NB128_129 := n5_; have NB129_128 := n6_; clear n0_ n1_ n2_ n3_ n4_ n5_ n6_; clear hb hbox hg; have hnb6 := NB128_129.out; have hnc6 := NB129_128.out; have hcz7_0 : w5.cell? ⟨gb128, 0, none⟩ = some (.int .i64 a0_0) := (blk_cell BK128.out 0).trans rfl; have hcz7_1 : w5.cell? ⟨gb128, 1, none⟩ = some (.int .i64 a0_1) := (blk_cell BK128.out 1).trans rfl; have hcz7_2 : w5.cell? ⟨gb128, 2, none⟩ = some (.string a0_2) := (blk_cell BK128.out 2).trans rfl; have hfz7_0 := blk_frozen BK128.out 0; have hfz7_1 := blk_frozen BK128.out 1; have hfz7_2 := blk_frozen BK128.out 2; have hcz8_0 : w5.cell? ⟨gb129, 0, none⟩ = some (.int .i64 a1_0) := (blk_cell BK129.out 0).trans rfl; have hcz8_1 : w5.cell? ⟨gb129, 1, none⟩ = some (.int .i64 a1_1) := (blk_cell BK129.out 1).trans rfl; have hcz8_2 : w5.cell? ⟨gb129, 2, none⟩ = some (.string a1_2) := (blk_cell BK129.out 2).trans rfl; have hfz8_0 := blk_frozen BK129.out 0; have hfz8_1 := blk_frozen BK129.out 1; have hfz8_2 := blk_frozen BK129.out 2))
    go_ret
    exact ⟨by first | rfl | (simp [errW_none, errW_some] <;> rfl) | (simp [*, errW_none, errW_some] <;> rfl), by repeat (first | (with_reducible first | exact HB.out | apply below_alloc | apply pw_below_drewN | apply below_drew1 | refine below_set ?_ GE128.out | refine below_set ?_ GE129.out) | exact HB.out)⟩
  · rw [if_neg c3] at H
    have c3b0 : decide (a0_0 < a1_0) = false := decide_eq_false c3
    clear c3
    by_cases c9 : a0_0 = a1_0
    · rw [if_pos c9] at H
      have c9b0 : (a0_0 == a1_0) = true := beq_iff_eq.mpr c9
      have c9b1 : (a0_0 != a1_0) = false := bne_eq_false_iff_eq.mpr c9
      clear c9
      obtain rfl := Option.some.inj H
      go_enter Try.func23, Try.ntmps23
      go_wp2_with (first | ((with_reducible refine gate_dst (N := 2) rfl ?_); refine box_event ?hg (N := 2) ?hd (cs := #[.int .i64 a0_0, .int .i64 a0_1, .string a0_2]) (t := 28) ?hr ?_; (case hd => rfl); (case hg => rfl); (case hr => first | (go_simp; done) | (go_simp; rfl)); intro gb128 hg w10 hbox hb; have n0_ := Aside0.mk (below_step (by repeat (first | (with_reducible first | exact HB.out | apply below_alloc | apply pw_below_drewN | apply below_drew1) | exact HB.out)) hb); have n1_ := Aside0.mk (hbox); have n2_ := Aside0.mk ((by rw [hg]; exact (below_size (by repeat (first | (with_reducible first | exact HB.out | apply below_alloc | apply pw_below_drewN | apply below_drew1) | exact HB.out))) : w.heap.size ≤ gb128)); have n3_ := Aside0.mk ((by rw [hg]; exact (below_size (by repeat (first | (with_reducible first | exact HB.out | apply below_alloc | apply pw_below_drewN | apply below_drew1) | exact HB.out))) : w.heap.size ≤ gb128)); clear HB; have HB := n0_; have BK128 := n1_; have GW128 := n2_; have GE128 := n3_; clear n0_ n1_ n2_ n3_; clear hb hbox hg) | ((with_reducible refine gate_dst (N := 3) rfl ?_); refine box_event ?hg (N := 3) ?hd (cs := #[.int .i64 a1_0, .int .i64 a1_1, .string a1_2]) (t := 28) ?hr ?_; (case hd => rfl); (case hg => rfl); (case hr => first | (go_simp; done) | (go_simp; rfl)); intro gb129 hg w11 hbox hb; have n0_ := Aside0.mk (blk_below (g := gb128) (o := .cells #[.int .i64 a0_0, .int .i64 a0_1, .string a0_2] 28 (0, 0)) (by (with_reducible repeat (first | refine blk_drewN ?_ _ | refine blk_drew ?_ | refine blk_alloc ?_ _)); exact BK128.out) hb); have n1_ := Aside0.mk (below_step (by repeat (first | (with_reducible first | exact HB.out | apply below_alloc | apply pw_below_drewN | apply below_drew1 | refine below_set ?_ GE128.out) | exact HB.out)) hb); have n2_ := Aside0.mk (hbox); have n3_ := Aside0.mk ((by rw [hg]; exact (below_size (by repeat (first | (with_reducible first | exact HB.out | apply below_alloc | apply pw_below_drewN | apply below_drew1 | refine below_set ?_ GE128.out) | exact HB.out))) : w.heap.size ≤ gb129)); have n4_ := Aside0.mk ((by rw [hg]; exact (below_size (by repeat (first | (with_reducible first | exact HB.out | apply below_alloc | apply pw_below_drewN | apply below_drew1 | refine below_set ?_ GE128.out) | exact HB.out))) : w.heap.size ≤ gb129)); have n5_ := Aside0.mk ((by rw [hg]; exact Nat.ne_of_lt (blk_lt (g := gb128) (o := .cells #[.int .i64 a0_0, .int .i64 a0_1, .string a0_2] 28 (0, 0)) (by (with_reducible repeat (first | refine blk_drewN ?_ _ | refine blk_drew ?_ | refine blk_alloc ?_ _)); exact BK128.out)) : gb128 ≠ gb129)); have n6_ := Aside0.mk ((by rw [hg]; exact Nat.ne_of_gt (blk_lt (g := gb128) (o := .cells #[.int .i64 a0_0, .int .i64 a0_1, .string a0_2] 28 (0, 0)) (by (with_reducible repeat (first | refine blk_drewN ?_ _ | refine blk_drew ?_ | refine blk_alloc ?_ _)); exact BK128.out)) : gb129 ≠ gb128)); clear BK128; clear HB; have BK128 := n0_; have HB := n1_; have BK129 := n2_; have GW129 := n3_; have GE129 := n4_; have NB128_129 := n5_; have NB129_128 := n6_; clear n0_ n1_ n2_ n3_ n4_ n5_ n6_; clear hb hbox hg; have hnb12 := NB128_129.out; have hnc12 := NB129_128.out; have hcz13_0 : w11.cell? ⟨gb128, 0, none⟩ = some (.int .i64 a0_0) := (blk_cell BK128.out 0).trans rfl; have hcz13_1 : w11.cell? ⟨gb128, 1, none⟩ = some (.int .i64 a0_1) := (blk_cell BK128.out 1).trans rfl; have hcz13_2 : w11.cell? ⟨gb128, 2, none⟩ = some (.string a0_2) := (blk_cell BK128.out 2).trans rfl; have hfz13_0 := blk_frozen BK128.out 0; have hfz13_1 := blk_frozen BK128.out 1; have hfz13_2 := blk_frozen BK128.out 2; have hcz14_0 : w11.cell? ⟨gb129, 0, none⟩ = some (.int .i64 a1_0) := (blk_cell BK129.out 0).trans rfl; have hcz14_1 : w11.cell? ⟨gb129, 1, none⟩ = some (.int .i64 a1_1) := (blk_cell BK129.out 1).trans rfl; have hcz14_2 : w11.cell? ⟨gb129, 2, none⟩ = some (.string a1_2) := (blk_cell BK129.out 2).trans rfl; have hfz14_0 := blk_frozen BK129.out 0; have hfz14_1 := blk_frozen BK129.out 1; have hfz14_2 := blk_frozen BK129.out 2))
      go_ret
      exact ⟨by first | rfl | (simp [errW_none, errW_some] <;> rfl) | (simp [*, errW_none, errW_some] <;> rfl), by repeat (first | (with_reducible first | exact HB.out | apply below_alloc | apply pw_below_drewN | apply below_drew1 | refine below_set ?_ GE128.out | refine below_set ?_ GE129.out) | exact HB.out)⟩
    · rw [if_neg c9] at H
      have c9b0 : (a0_0 == a1_0) = false := beq_eq_false_iff_ne.mpr c9
      have c9b1 : (a0_0 != a1_0) = true := bne_iff_ne.mpr c9
      obtain rfl := Option.some.inj H
      go_enter Try.func23, Try.ntmps23
      go_wp2_with (first | ((with_reducible refine gate_dst (N := 2) rfl ?_); refine box_event ?hg (N := 2) ?hd (cs := #[.int .i64 a0_0, .int .i64 a0_1, .string a0_2]) (t := 28) ?hr ?_; (case hd => rfl); (case hg => rfl); (case hr => first | (go_simp; done) | (go_simp; rfl)); intro gb128 hg w15 hbox hb; have n0_ := Aside0.mk (below_step (by repeat (first | (with_reducible first | exact HB.out | apply below_alloc | apply pw_below_drewN | apply below_drew1) | exact HB.out)) hb); have n1_ := Aside0.mk (hbox); have n2_ := Aside0.mk ((by rw [hg]; exact (below_size (by repeat (first | (with_reducible first | exact HB.out | apply below_alloc | apply pw_below_drewN | apply below_drew1) | exact HB.out))) : w.heap.size ≤ gb128)); have n3_ := Aside0.mk ((by rw [hg]; exact (below_size (by repeat (first | (with_reducible first | exact HB.out | apply below_alloc | apply pw_below_drewN | apply below_drew1) | exact HB.out))) : w.heap.size ≤ gb128)); clear HB; have HB := n0_; have BK128 := n1_; have GW128 := n2_; have GE128 := n3_; clear n0_ n1_ n2_ n3_; clear hb hbox hg) | ((with_reducible refine gate_dst (N := 3) rfl ?_); refine box_event ?hg (N := 3) ?hd (cs := #[.int .i64 a1_0, .int .i64 a1_1, .string a1_2]) (t := 28) ?hr ?_; (case hd => rfl); (case hg => rfl); (case hr => first | (go_simp; done) | (go_simp; rfl)); intro gb129 hg w16 hbox hb; have n0_ := Aside0.mk (blk_below (g := gb128) (o := .cells #[.int .i64 a0_0, .int .i64 a0_1, .string a0_2] 28 (0, 0)) (by (with_reducible repeat (first | refine blk_drewN ?_ _ | refine blk_drew ?_ | refine blk_alloc ?_ _)); exact BK128.out) hb); have n1_ := Aside0.mk (below_step (by repeat (first | (with_reducible first | exact HB.out | apply below_alloc | apply pw_below_drewN | apply below_drew1 | refine below_set ?_ GE128.out) | exact HB.out)) hb); have n2_ := Aside0.mk (hbox); have n3_ := Aside0.mk ((by rw [hg]; exact (below_size (by repeat (first | (with_reducible first | exact HB.out | apply below_alloc | apply pw_below_drewN | apply below_drew1 | refine below_set ?_ GE128.out) | exact HB.out))) : w.heap.size ≤ gb129)); have n4_ := Aside0.mk ((by rw [hg]; exact (below_size (by repeat (first | (with_reducible first | exact HB.out | apply below_alloc | apply pw_below_drewN | apply below_drew1 | refine below_set ?_ GE128.out) | exact HB.out))) : w.heap.size ≤ gb129)); have n5_ := Aside0.mk ((by rw [hg]; exact Nat.ne_of_lt (blk_lt (g := gb128) (o := .cells #[.int .i64 a0_0, .int .i64 a0_1, .string a0_2] 28 (0, 0)) (by (with_reducible repeat (first | refine blk_drewN ?_ _ | refine blk_drew ?_ | refine blk_alloc ?_ _)); exact BK128.out)) : gb128 ≠ gb129)); have n6_ := Aside0.mk ((by rw [hg]; exact Nat.ne_of_gt (blk_lt (g := gb128) (o := .cells #[.int .i64 a0_0, .int .i64 a0_1, .string a0_2] 28 (0, 0)) (by (with_reducible repeat (first | refine blk_drewN ?_ _ | refine blk_drew ?_ | refine blk_alloc ?_ _)); exact BK128.out)) : gb129 ≠ gb128)); clear BK128; clear HB; have BK128 := n0_; have HB := n1_; have BK129 := n2_; have GW129 := n3_; have GE129 := n4_; have NB128_129 := n5_; have NB129_128 := n6_; clear n0_ n1_ n2_ n3_ n4_ n5_ n6_; clear hb hbox hg; have hnb17 := NB128_129.out; have hnc17 := NB129_128.out; have hcz18_0 : w16.cell? ⟨gb128, 0, none⟩ = some (.int .i64 a0_0) := (blk_cell BK128.out 0).trans rfl; have hcz18_1 : w16.cell? ⟨gb128, 1, none⟩ = some (.int .i64 a0_1) := (blk_cell BK128.out 1).trans rfl; have hcz18_2 : w16.cell? ⟨gb128, 2, none⟩ = some (.string a0_2) := (blk_cell BK128.out 2).trans rfl; have hfz18_0 := blk_frozen BK128.out 0; have hfz18_1 := blk_frozen BK128.out 1; have hfz18_2 := blk_frozen BK128.out 2; have hcz19_0 : w16.cell? ⟨gb129, 0, none⟩ = some (.int .i64 a1_0) := (blk_cell BK129.out 0).trans rfl; have hcz19_1 : w16.cell? ⟨gb129, 1, none⟩ = some (.int .i64 a1_1) := (blk_cell BK129.out 1).trans rfl; have hcz19_2 : w16.cell? ⟨gb129, 2, none⟩ = some (.string a1_2) := (blk_cell BK129.out 2).trans rfl; have hfz19_0 := blk_frozen BK129.out 0; have hfz19_1 := blk_frozen BK129.out 1; have hfz19_2 := blk_frozen BK129.out 2))
      go_ret
      exact ⟨by first | rfl | (simp [errW_none, errW_some] <;> rfl) | (simp [*, errW_none, errW_some] <;> rfl), by repeat (first | (with_reducible first | exact HB.out | apply below_alloc | apply pw_below_drewN | apply below_drew1 | refine below_set ?_ GE128.out | refine below_set ?_ GE129.out) | exact HB.out)⟩

/-! ### spec_Sorted -/

def spec_Sorted.f (l0 : List S28) : Option (List S28) := if l0.length < 4398046511104 then some ((SortU.sortE (l0.map toE)).map ofE) else none

def accE (l0 : List S28) (k : Nat) : List SortM.E := SortU.sortE ((l0.take k).map toE)

theorem sortE_snoc (l : List SortM.E) (e : SortM.E) : SortU.sortE (l ++ [e]) = SortU.insE (SortU.sortE l) e := by
  unfold SortU.sortE; rw [List.foldl_append]; rfl

theorem accE_succ (l0 : List S28) (k : Nat) (h : k < l0.length) : accE l0 (k + 1) = SortU.insE (accE l0 k) (toE (l0.getD k z28)) := by
  unfold accE
  rw [List.take_succ_eq_append_getElem h, List.map_append, List.map_singleton, sortE_snoc]
  simp [List.getD, List.getElem?_eq_getElem h]

theorem accE_length (l0 : List S28) (k : Nat) (h : k ≤ l0.length) : (accE l0 k).length = k := by
  unfold accE; rw [sortE_length]; simp; omega

theorem owns_R {w : World} {base g n cap : Nat} {cur : Array Value} {xs : List SortM.E} (hh : w.heap[g]? = some (.cells cur 28 (0, 0))) (hb : base ≤ g) (h1 : n ≤ cap) (h2 : cap ≤ maxLen) (h3 : cur.size = cap * 3)
    (h4 : cur.toList.take (n * 3) = SortU.flat xs) (h5 : xs.length = n) : Kd.R k28 28 w base (fun _ => True) (.slice (some ⟨g, 0, none⟩) n cap) (xs.map ofE) := by
  subst h5
  refine ⟨fun _ _ => trivial, SortU.flat xs, ?_, ?_, fun j p hj => ?_⟩
  · rw [List.length_map]
    exact ⟨SortU.flat_length xs, .inr ⟨g, cap, cur, rfl, hb, hh, h1, h2, h3, h4⟩⟩
  · rw [List.length_map]; exact SortU.flat_length xs
  · rw [List.getElem?_map] at hj
    cases hx : xs[j]? with
    | none => rw [hx] at hj; cases hj
    | some q =>
      rw [hx] at hj
      obtain rfl := Option.some.inj hj
      have := SortU.flat_get xs j q hx
      rw [show k28.sz = 3 from rfl, this]
      exact k28_mkM _ _ _ (ofE q)

theorem ne_of_hat {v1 v : Value} {W : World} {gb : Nat} (hat : v1.ownBlock = v.ownBlock ∨ ∃ b, v1.ownBlock = some b ∧ W.heap.size ≤ b) (h : some gb ≠ v.ownBlock) (hl : gb < W.heap.size) : some gb ≠ v1.ownBlock := by
  rcases hat with h1 | ⟨b1, h1, hb1⟩
  · rw [h1]; exact h
  · rw [h1]; intro hk; injection hk with hk; omega

theorem finR {w11 : World} {base g m k cap : Nat} {x : S28} {l0 : List S28} {es : List SortM.E} {cur : Array Value} (hx : x = rd_T28 l0 (k : Int)) (hI : SortU.insAt es (toE x) es.length = m)
    (hg : Hid (w11.heap[g]? = some (.cells (splice cur.toList ((m + 1) * 3) (SortU.flat (es.drop m))).toArray 28 (0, 0)))) (hsl : (splice cur.toList ((m + 1) * 3) (SortU.flat (es.drop m))).length = cap * 3)
    (ht : cur.toList.take ((es.length + 1) * 3) = SortU.flat (es ++ [toE x])) (hcl : cur.toList.length = cap * 3) (hml : m ≤ es.length) (hgb : base ≤ g) (hncap : es.length + 1 ≤ cap) (hcapm : cap ≤ 9223372036854775807) :
    Kd.R k28 28 (((w11.setCell ⟨g, m * 3, none⟩ (.int .i64 x.f0)).setCell ⟨g, m * 3 + 1, none⟩ (.int .i64 x.f1)).setCell ⟨g, m * 3 + 2, none⟩ (.string x.f2)) base (fun _ => True) (.slice (some ⟨g, 0, none⟩) (es.length + 1) cap) ((SortU.insE es (toE (l0.getD k z28))).map ofE) := by
  have e : toE (l0.getD k z28) = toE x := by rw [hx]; rfl
  rw [e]
  have e2 : SortU.insE es (toE x) = es.take m ++ toE x :: es.drop m := by unfold SortU.insE; rw [hI]
  rw [e2]
  have h1 := blk_set (blk_set (blk_set hg.out (m * 3) (.int .i64 x.f0)) (m * 3 + 1) (.int .i64 x.f1)) (m * 3 + 2) (.string x.f2)
  rw [List.setIfInBounds_toArray, List.setIfInBounds_toArray, List.setIfInBounds_toArray] at h1
  refine owns_R h1 hgb hncap (by unfold maxLen; exact hcapm) ?_ ?_ (by simp; omega)
  · rw [List.size_toArray]
    simp only [List.length_set]
    exact hsl
  · exact SortU.put_row cur.toList es (toE x) m hml ht

theorem elem_of (es : List SortM.E) (m : Nat) (h0 : 0 < m) (hm : m ≤ es.length) : toE (rd_T28 (es.map ofE) ((m : Int) - 1)) = es[m - 1]?.getD default := by
  unfold rd_T28
  rw [show ((m : Int) - 1).toNat = m - 1 by omega, List.getD_eq_getElem?_getD, List.getElem?_map, List.getElem?_eq_getElem (by omega)]
  rfl

theorem before_lt (x y : S28) : spec_Before.f x.f0 x.f1 x.f2 y.f0 y.f1 y.f2 = some (SortM.lt (toE x) (toE y)) := by
  unfold spec_Before.f SortM.lt toE
  by_cases h : x.f0 < y.f0
  · simp [h]
  · by_cases h2 : x.f0 = y.f0 <;> simp [h, h2]

set_option maxHeartbeats 8000000 in
set_option maxRecDepth 100000 in
theorem spec_Sorted.calls (A0 : Option Addr) (c0 : Nat) (l0 : List (S28)) (r : List (S28)) (w : World) (hr0 : Kd.C k28 w A0 l0.length l0) (hc0 : l0.length ≤ c0) (h : spec_Sorted.f l0 = some r) :
    Calls Try.prog 12 #[.slice A0 l0.length c0] w fun e w' => ∃ v0_ : Value, e = .returned (v0_) ∧ Kd.R k28 28 w' w.heap.size (fun _ => True) v0_ r ∧ Below w.heap.size w w' := by
  have hlen : l0.length < 4398046511104 := by
    unfold spec_Sorted.f at h; split at h
    · assumption
    · cases h
  have hr : r = (accE l0 l0.length).map ofE := by
    unfold spec_Sorted.f at h; rw [if_pos hlen] at h
    unfold accE; rw [List.take_length]; exact (Option.some.inj h).symm
  have HR := Lib.hid hr
  have HR0 := Aside0.mk hr0
  have HC0 := Aside0.mk hc0
  clear hr0 hc0 hr h
  have HB := Aside0.mk (Below.refl w.heap.size w)
  go_enter Try.func12, Try.ntmps12
  go_wp2_with (first | ((with_reducible refine gate_dst (N := 7) rfl ?_); refine Kd.R_lit k28 _ 28 ?hg (N := 7) ?hd (xs := ([] : List S28)) (inner := []) (ok := fun _ => True) (okp := fun _ => True) ?hr ?hp (fun _ hk => hk) trivial (Below.refl _ _) (Nat.le_refl _) (by simp) ?_; (case hd => rfl); (case hg => rfl); (case hr => first | (go_simp; done) | (go_simp; rfl)); (case hp => exact (Reps.none _ _)); intro v109 w2 ho3 hb hg_ hnew_; clear hg_ hnew_; have HO := Aside0.mk ho3; clear ho3; have HB2 := Aside0.mk hb; clear hb))
  go_loopw [3, 10] (fun v3 v10 wr => ∃ k : Nat, v10 = .int .i64 k ∧ k ≤ l0.length ∧ Aside0 (Kd.R k28 28 wr w.heap.size (fun _ => True) v3 ((accE l0 k).map ofE)) ∧ Aside0 (Below w.heap.size w wr)) (fun _ v10 _ => l0.length - (intOf v10).toNat)
  case atStart => exact ⟨0, rfl, by omega, ⟨HO.out⟩, ⟨HB2.out⟩⟩
  case round =>
    clear HO HB2
    obtain ⟨k, rfl, hk, HO, HB⟩ := hrel
    by_cases hlt : k < l0.length
    · obtain ⟨ad, e1, hx0, hx1, hx2⟩ := at_T28 HR0.out (k : Int) (by omega) (by omega)
      cases e1
      replace hx0 := (HB.out.cell (World.block_lt_of_cell? w _ hx0)).trans hx0
      replace hx1 := (HB.out.cell (World.block_lt_of_cell? w _ hx1)).trans hx1
      replace hx2 := (HB.out.cell (World.block_lt_of_cell? w _ hx2)).trans hx2
      obtain ⟨x, hx⟩ : ∃ x, x = rd_T28 l0 (k : Int) := ⟨_, rfl⟩
      rw [← hx, Int.toNat_natCast] at hx0 hx1 hx2
      have HX := Lib.hid hx
      clear hx
      obtain ⟨es, hes⟩ : ∃ es, es = accE l0 k := ⟨_, rfl⟩
      have hesl : es.length = k := by rw [hes]; exact accE_length l0 k hk
      rw [← hes] at HO
      have HES := Lib.hid hes
      have HESL := Lib.hid hesl
      clear hes hesl
      obtain ⟨A3, c3, rfl, hc3, hC3⟩ := Kd.R_reads HO.out
      rw [List.length_map] at HO hc3 hC3
      have HC3 := Aside0.mk hC3
      clear hC3
      go_upto_block 2 with (first | ((with_reducible refine gate_dst (N := 5) rfl ?_); refine box_event ?hg (N := 5) ?hd (cs := #[.int .i64 0, .int .i64 0, .string (⟨#[]⟩ : ByteArray)]) (t := 28) ?hr ?_; (case hd => rfl); (case hg => rfl); (case hr => first | (go_simp; done) | (go_simp; rfl)); intro gb hgb w8 hbox hb; have GE := Aside0.mk (by rw [hgb]; exact HB.out.size : w.heap.size ≤ gb); have hc0_ : w8.cell? ⟨gb, 0, none⟩ = some (.int .i64 0) := (blk_cell hbox 0).trans rfl; have hc1_ : w8.cell? ⟨gb, 1, none⟩ = some (.int .i64 0) := (blk_cell hbox 1).trans rfl; have hc2_ : w8.cell? ⟨gb, 2, none⟩ = some (.string (⟨#[]⟩ : ByteArray)) := (blk_cell hbox 2).trans rfl; have hf0_ := blk_frozen hbox 0; have hf1_ := blk_frozen hbox 1; have hf2_ := blk_frozen hbox 2; have BK := Aside0.mk hbox; have HGB := Lib.hid hgb; clear hgb; have HW8 := Aside0.mk hb; clear hbox hb))
      obtain ⟨wq, hwq⟩ : ∃ wq, wq = ((w8.setCell ⟨gb, 0, none⟩ (.int .i64 x.f0)).setCell ⟨gb, 1, none⟩ (.int .i64 x.f1)).setCell ⟨gb, 2, none⟩ (.string x.f2) := ⟨_, rfl⟩
      have HOq := Aside0.mk (by
        rw [hwq]
        have h1 := Kd.R_below (Kd.R_bound HO.out) HW8.out
        exact Kd.R_mono (Kd.R_far (p := ⟨gb, 2, none⟩) (Kd.R_far (p := ⟨gb, 1, none⟩) (Kd.R_far (p := ⟨gb, 0, none⟩) h1 (fun k hk => by have := hk.2.2.1; rw [HGB.out]; exact Nat.ne_of_lt this) _) (fun k hk => by have := hk.2.2.1; rw [HGB.out]; exact Nat.ne_of_lt this) _) (fun k hk => by have := hk.2.2.1; rw [HGB.out]; exact Nat.ne_of_lt this) _) (fun _ _ => trivial) : Kd.R k28 28 wq w.heap.size (fun _ => True) (.slice A3 es.length c3) (es.map ofE))
      have HBq := Aside0.mk (by
        rw [hwq]
        exact ((below_step HB.out HW8.out).setCell GE.out _ |>.setCell GE.out _ |>.setCell GE.out _) : Below w.heap.size w wq)
      have BKq := Aside0.mk (by
        rw [hwq]
        have := blk_set (blk_set (blk_set BK.out 0 (.int .i64 x.f0)) 1 (.int .i64 x.f1)) 2 (.string x.f2)
        simpa using this : wq.heap[gb]? = some (.cells #[.int .i64 x.f0, .int .i64 x.f1, .string x.f2] 28 (0, 0)))
      have HNE := Aside0.mk (fun hk => by
        obtain ⟨inner, hown, _⟩ := HO.out.2
        have := own_lt hown gb hk.symm
        rw [HGB.out] at this
        exact absurd this (Nat.lt_irrefl _) : some gb ≠ (Value.slice A3 es.length c3).ownBlock)
      rw [← hwq]
      clear hwq HW8 BK HGB HO HB HC3 hc0_ hc1_ hc2_ hf0_ hf1_ hf2_
      go_cut [6] from 16 to 28 (fun v6 wx => ∃ m : Nat, v6 = .int .i64 m ∧ Hid (SortU.insAt es (toE x) es.length = m) ∧ Aside0 (Kd.R k28 28 wx w.heap.size (fun _ => True) (.slice A3 es.length c3) (es.map ofE)) ∧ Aside0 (Below w.heap.size w wx) ∧ Aside0 (wx.heap[gb]? = some (.cells #[.int .i64 x.f0, .int .i64 x.f1, .string x.f2] 28 (0, 0))))
      case first =>
        go_wp2_with fail
        go_loopw [6] (fun v6 wr2 => ∃ m : Nat, v6 = .int .i64 m ∧ m ≤ es.length ∧ Hid (SortU.insAt es (toE x) es.length = SortU.insAt es (toE x) m) ∧ Aside0 (Kd.R k28 28 wr2 w.heap.size (fun _ => True) (.slice A3 es.length c3) (es.map ofE)) ∧ Aside0 (Below w.heap.size w wr2) ∧ Aside0 (wr2.heap[gb]? = some (.cells #[.int .i64 x.f0, .int .i64 x.f1, .string x.f2] 28 (0, 0)))) (fun v6 _ => (intOf v6).toNat)
        case atStart => exact ⟨es.length, rfl, Nat.le_refl _, rfl, HOq, HBq, BKq⟩
        case round =>
          clear HOq HBq BKq
          obtain ⟨m, rfl, hm, hI, HO, HB, BK⟩ := hrel
          have hb0 : wr.cell? ⟨gb, 0, none⟩ = some (.int .i64 x.f0) := (blk_cell BK.out 0).trans rfl
          have hb1 : wr.cell? ⟨gb, 1, none⟩ = some (.int .i64 x.f1) := (blk_cell BK.out 1).trans rfl
          have hb2 : wr.cell? ⟨gb, 2, none⟩ = some (.string x.f2) := (blk_cell BK.out 2).trans rfl
          by_cases hm0 : 0 < m
          · go_wp2
            have hd : decide ((0 : Int) < (m : Int)) = true := decide_eq_true (by omega)
            have hC := (Kd.R_reads' HO.out).2.2
            obtain ⟨ad2, e2, hy0, hy1, hy2⟩ := at_T28 hC ((m : Int) - 1) (by omega) (by rw [List.length_map]; omega)
            cases e2
            clear hC
            obtain ⟨y, hy⟩ : ∃ y, y = rd_T28 (es.map ofE) ((m : Int) - 1) := ⟨_, rfl⟩
            rw [← hy, show ((m : Int) - 1).toNat = m - 1 by omega] at hy0 hy1 hy2
            have HY := Lib.hid hy
            clear hy
            have s2 : (1 : Int) ≤ (m : Int) := by omega
            have s4 : (m : Int) - 1 < (es.length : Int) := by omega
            have hlb : es.length < 4398046511104 := by rw [HESL.out]; omega
            have s3 : ((m : Int) - 1).toNat = m - 1 := by omega
            have s1 : IntKind.i64.wrap ((m : Int) - 1) = (m : Int) - 1 := IntWalk.i64_in _ (by omega)
            go_still_tail 9, (by kernel_rfl)
            clear s1 s2 s3 s4
            change wpList _ _ _ _ _ wr.drew
            obtain ⟨b, hbv⟩ : ∃ b, b = SortM.lt (toE x) (toE y) := ⟨_, rfl⟩
            have hcall := fun W => spec_Before.calls x.f0 x.f1 x.f2 y.f0 y.f1 y.f2 b W (by rw [hbv]; exact before_lt x y)
            have HBV := Lib.hid hbv
            clear hbv
            cases b with
            | true =>
              go_wp2_with fail
              refine (hcall _).mono ?_
              rintro e w3 ⟨rfl, hb3⟩
              have HB3 := Aside0.mk hb3
              clear hb3
              go_wp2_with fail
              go_roundw
              case rel => exact ⟨m - 1, by congr 1; omega, by omega, by show _ = _; rw [hI.out]; exact SortU.insAt_yes es (toE x) m hm0 (by rw [← elem_of es m hm0 hm, ← HY.out, ← HBV.out]), ⟨Kd.R_below (Kd.R_drew HO.out) HB3.out⟩, ⟨below_step (below_drew HB.out) HB3.out⟩, ⟨blk_below (blk_drew BK.out) HB3.out⟩⟩
              case measure => simp [intOf]; omega
            | false =>
              go_wp2_with fail
              refine (hcall _).mono ?_
              rintro e w3 ⟨rfl, hb3⟩
              have HB3 := Aside0.mk hb3
              clear hb3
              go_wp2_with fail
              go_meet
              exact ⟨m, rfl, by show _ = _; rw [hI.out]; exact SortU.insAt_no es (toE x) m hm0 (by rw [← elem_of es m hm0 hm, ← HY.out, ← HBV.out]), ⟨Kd.R_below (Kd.R_drew HO.out) HB3.out⟩, ⟨below_step (below_drew HB.out) HB3.out⟩, ⟨blk_below (blk_drew BK.out) HB3.out⟩⟩
          · obtain rfl : m = 0 := by omega
            have hd : decide ((0 : Int) < 0) = false := rfl
            go_wp2
            go_quiet (fail)
            go_wp2
            go_meet
            exact ⟨0, rfl, hI, ⟨Kd.R_drewN HO.out _⟩, ⟨pw_below_drewN HB.out _⟩, ⟨BK.out⟩⟩
      case rest =>
        clear HOq HBq BKq
        obtain ⟨m, rfl, hI, HO, HB, BK⟩ := hcut
        have hb0 : wc.cell? ⟨gb, 0, none⟩ = some (.int .i64 x.f0) := (blk_cell BK.out 0).trans rfl
        have hb1 : wc.cell? ⟨gb, 1, none⟩ = some (.int .i64 x.f1) := (blk_cell BK.out 1).trans rfl
        have hb2 : wc.cell? ⟨gb, 2, none⟩ = some (.string x.f2) := (blk_cell BK.out 2).trans rfl
        have hml : m ≤ es.length := by rw [← hI.out]; exact SortU.insAt_le es (toE x) es.length
        have hlb : es.length < 4398046511104 := by rw [HESL.out]; omega
        go_upto_region 9 with ((with_reducible refine gate_builtin (b := .append) (xs := #[.tmp 29, .tmp 31]) rfl ?_); at_builtin; refine Kd.R_append k28 (w0 := w) w.heap.size rfl (.tmp 29) (.tmp 31) 22 28 (.agg #[(.int .i64 0), (.int .i64 0), (.string ⟨#[]⟩)]) 32 rfl Try.underlying22 info28 rfl (by decide) (by omega) (.slice A3 es.length c3) (es.map ofE) x [.int .i64 x.f0, .int .i64 x.f1, .string x.f2] (fun _ => True) (fun _ => False) rfl (by first | (go_simp; done) | (go_simp; rfl)) ?aP (fun _ hk => hk.elim) (fun _ _ => trivial) HO.out HB.out HB.out.size ?aL ?_; (case aP => exact k28_mkM _ _ _ x); (case aL => rw [List.length_map]; omega); intro v114 w10 ho hb hg hat; have BK10 := Aside0.mk (blk_grown BK.out hg HNE.out); have HN10 := Aside0.mk (ne_of_hat hat HNE.out (blk_lt BK.out)); have HO10 := Aside0.mk ho; have HB10 := Aside0.mk hb; clear ho hb hg hat)
        clear HO HB BK
        rw [show es.map ofE ++ [x] = (es ++ [toE x]).map ofE by simp [ofE_toE]] at HO10
        obtain ⟨inner, hown, hreps⟩ := HO10.out.2
        have hinner : inner = SortU.flat (es ++ [toE x]) := by
          refine SortU.flat_of _ inner (by have := hreps.1; rw [show k28.sz = 3 from rfl] at this; simpa using this) fun j p hj => ?_
          exact k28_openM (hreps.2 j (ofE p) (by rw [List.getElem?_map, hj]; rfl))
        subst hinner
        rcases hown.2 with ⟨_, hz⟩ | ⟨g, cap, cur, hv, hgb, hheap, hncap, hcapm, hcsz, htake⟩
        · simp at hz
        · have hlen1 : ((es ++ [toE x]).map ofE).length = es.length + 1 := by simp
          rw [hlen1] at hv hncap htake
          rw [show k28.sz = 3 from rfl] at hcsz htake
          clear hlen1 hown hreps
          have HH := Aside0.mk hheap
          have HT := Lib.hid htake
          have HC := Lib.hid hcsz
          unfold maxLen at hcapm
          clear hheap htake hcsz
          subst hv
          have HCL : Hid (cur.toList.length = cap * 3) := by show _ = _; rw [Array.length_toList]; exact HC.out
          have hncap1 : ¬ cap = m := by omega
          have hn1 : (1 : Int) ≤ (m : Int) + 1 := by omega
          have hn2 : (0 : Int) ≤ (m : Int) + 1 := by omega
          have hn3 : (m : Int) + 1 ≤ (es.length : Int) + 1 := by omega
          have hn4 : ((m : Int) + 1).toNat = m + 1 := by omega
          have hn5 : IntKind.i64.wrap ((m : Int) + 1) = (m : Int) + 1 := IntWalk.i64_in _ (by omega)
          have hn6 : (m : Int) ≤ (es.length : Int) + 1 := by omega
          have hn7 : (m : Int) ≤ (es.length : Int) := by omega
          by_cases hend : cap = m + 1
          · have hcm : cap - (m + 1) = 0 := by omega
            go_still_tail 7, (by kernel_rfl)
            change wpList _ _ _ _ _ w10.drew
            refine CopyK.wpList_copyK rfl (.tmp 36) (.tmp 39) 22 22 rfl 28 3 Try.underlying22 (by kernel_rfl) (by omega) _ _ _ _ _ _ rfl rfl g ((m + 1) * 3) cur.toList 28 ?hg (SortU.flat (es.drop m)) ?hn ?hpos ?hfit (SortU.flat_one _) w.heap.size w ?hb hgb ?_
            case hg => rw [Array.toArray_toList]; exact HH.out
            case hn => rw [SortU.flat_length, List.length_drop]; congr 1; simp only [Nat.min_def]; split <;> omega
            case hpos => intro hp; exfalso; rw [SortU.flat_length, List.length_drop] at hp; omega
            case hfit => rw [SortU.flat_length, List.length_drop, HCL.out]; omega
            case hb => exact below_drew HB10.out
            intro w11 hg11 hb11 hk11
            have hgg : gb ≠ g := fun hh => HN10.out (by rw [hh]; rfl)
            have BK11 : w11.heap[gb]? = some (.cells #[.int .i64 x.f0, .int .i64 x.f1, .string x.f2] 28 (0, 0)) := (hk11 gb hgg).trans BK10.out
            have hb0 : w11.cell? ⟨gb, 0, none⟩ = some (.int .i64 x.f0) := (blk_cell BK11 0).trans rfl
            have hb1 : w11.cell? ⟨gb, 1, none⟩ = some (.int .i64 x.f1) := (blk_cell BK11 1).trans rfl
            have hb2 : w11.cell? ⟨gb, 2, none⟩ = some (.string x.f2) := (blk_cell BK11 2).trans rfl
            have hsl : (splice cur.toList ((m + 1) * 3) (SortU.flat (es.drop m))).length = cap * 3 := by
              rw [length_splice _ _ _ (by rw [SortU.flat_length, List.length_drop, HCL.out]; omega), HCL.out]
            obtain ⟨q0, hq0⟩ : ∃ q, w11.cell? ⟨g, m * 3, none⟩ = some q := ⟨_, (blk_cell hg11.out (m * 3)).trans (by rw [List.getElem?_toArray]; exact List.getElem?_eq_getElem (by omega))⟩
            obtain ⟨q1, hq1⟩ : ∃ q, w11.cell? ⟨g, m * 3 + 1, none⟩ = some q := ⟨_, (blk_cell hg11.out (m * 3 + 1)).trans (by rw [List.getElem?_toArray]; exact List.getElem?_eq_getElem (by omega))⟩
            obtain ⟨q2, hq2⟩ : ∃ q, w11.cell? ⟨g, m * 3 + 2, none⟩ = some q := ⟨_, (blk_cell hg11.out (m * 3 + 2)).trans (by rw [List.getElem?_toArray]; exact List.getElem?_eq_getElem (by omega))⟩
            have hf0 := blk_frozen hg11.out (m * 3)
            have hf1 := blk_frozen hg11.out (m * 3 + 1)
            have hf2 := blk_frozen hg11.out (m * 3 + 2)
            have HB11 := Aside0.mk hb11
            have HSL := Lib.hid hsl
            clear hk11 hb11 hsl BK11 hn5 hn4
            go_wp2_with fail
            go_roundw
            case rel => exact ⟨k + 1, by go_num, by omega, ⟨by rw [accE_succ l0 k hlt, ← HES.out]; have h9 := finR HX.out hI.out hg11 HSL.out HT.out HCL.out hml hgb hncap hcapm; rw [hend] at h9; exact h9⟩, ⟨((HB11.out.setCell hgb _).setCell hgb _).setCell hgb _⟩⟩
            case measure => simp [intOf]; omega
          · go_still_tail 7, (by kernel_rfl)
            change wpList _ _ _ _ _ w10.drew
            refine CopyK.wpList_copyK rfl (.tmp 36) (.tmp 39) 22 22 rfl 28 3 Try.underlying22 (by kernel_rfl) (by omega) _ _ _ _ _ _ rfl rfl g ((m + 1) * 3) cur.toList 28 ?hg (SortU.flat (es.drop m)) ?hn ?hpos ?hfit (SortU.flat_one _) w.heap.size w ?hb hgb ?_
            case hg => rw [Array.toArray_toList]; exact HH.out
            case hn => rw [SortU.flat_length, List.length_drop]; congr 1; simp only [Nat.min_def]; split <;> omega
            case hpos => intro _; exact ⟨rfl, ⟨g, m * 3, none⟩, rfl, fun j v hj => by rw [show (⟨g, m * 3, none⟩ : Addr).add j = ⟨g, m * 3 + j, none⟩ by unfold Addr.add; split <;> simp_all]; exact (blk_cell HH.out (m * 3 + j)).trans (by rw [← Array.getElem?_toList]; exact SortU.src_cells cur.toList es (toE x) m hml HT.out j v hj)⟩
            case hfit => rw [SortU.flat_length, List.length_drop, HCL.out]; omega
            case hb => exact below_drew HB10.out
            intro w11 hg11 hb11 hk11
            have hgg : gb ≠ g := fun hh => HN10.out (by rw [hh]; rfl)
            have BK11 : w11.heap[gb]? = some (.cells #[.int .i64 x.f0, .int .i64 x.f1, .string x.f2] 28 (0, 0)) := (hk11 gb hgg).trans BK10.out
            have hb0 : w11.cell? ⟨gb, 0, none⟩ = some (.int .i64 x.f0) := (blk_cell BK11 0).trans rfl
            have hb1 : w11.cell? ⟨gb, 1, none⟩ = some (.int .i64 x.f1) := (blk_cell BK11 1).trans rfl
            have hb2 : w11.cell? ⟨gb, 2, none⟩ = some (.string x.f2) := (blk_cell BK11 2).trans rfl
            have hsl : (splice cur.toList ((m + 1) * 3) (SortU.flat (es.drop m))).length = cap * 3 := by
              rw [length_splice _ _ _ (by rw [SortU.flat_length, List.length_drop, HCL.out]; omega), HCL.out]
            obtain ⟨q0, hq0⟩ : ∃ q, w11.cell? ⟨g, m * 3, none⟩ = some q := ⟨_, (blk_cell hg11.out (m * 3)).trans (by rw [List.getElem?_toArray]; exact List.getElem?_eq_getElem (by omega))⟩
            obtain ⟨q1, hq1⟩ : ∃ q, w11.cell? ⟨g, m * 3 + 1, none⟩ = some q := ⟨_, (blk_cell hg11.out (m * 3 + 1)).trans (by rw [List.getElem?_toArray]; exact List.getElem?_eq_getElem (by omega))⟩
            obtain ⟨q2, hq2⟩ : ∃ q, w11.cell? ⟨g, m * 3 + 2, none⟩ = some q := ⟨_, (blk_cell hg11.out (m * 3 + 2)).trans (by rw [List.getElem?_toArray]; exact List.getElem?_eq_getElem (by omega))⟩
            have hf0 := blk_frozen hg11.out (m * 3)
            have hf1 := blk_frozen hg11.out (m * 3 + 1)
            have hf2 := blk_frozen hg11.out (m * 3 + 2)
            have HB11 := Aside0.mk hb11
            have HSL := Lib.hid hsl
            clear hk11 hb11 hsl BK11 hn5 hn4
            go_wp2_with fail
            go_roundw
            case rel => exact ⟨k + 1, by go_num, by omega, ⟨by rw [accE_succ l0 k hlt, ← HES.out]; exact finR HX.out hI.out hg11 HSL.out HT.out HCL.out hml hgb hncap hcapm⟩, ⟨((HB11.out.setCell hgb _).setCell hgb _).setCell hgb _⟩⟩
            case measure => simp [intOf]; omega
    · obtain rfl : k = l0.length := by omega
      go_wp2
      go_ret
      exact ⟨_, rfl, by rw [HR.out]; exact HO.out, HB.out⟩

/-! ### laws_FnSortReference: function 3 -/
def laws_FnSortReference.f (k : Nat) (l0 : List (S28)) : Option (Bool) := (laws_zzFits1.f k l0).bind fun t130 => (if t130 = true then ((spec_SizeOfEdits.f k l0).bind fun t131 => ((spec_TooLong.f k (([t131] : List Int))).bind fun t135 => (if t135 = true then (some true) else ((impl_SortEdits.f (([(⟨0, 0, (⟨#[120]⟩ : ByteArray)⟩ : S28)] : List (S28)))).bind fun t139 => (if (t139.length : Int) = 1 then ((spec_AreNear.f k l0).bind fun t142 => (if t142 = true then ((impl_SortEdits.f l0).bind fun t143 => ((spec_Sorted.f l0).bind fun t146 => ((spec_SameEdits.f k t143 t146).bind fun t149 => (some t149)))) else (some true))) else (some false)))))) else (some true))
theorem laws_FnSortReference.mono : ∀ a0 k, LeO (laws_FnSortReference.f k a0) (laws_FnSortReference.f (k + 1) a0) := by
  intro a0 k
  unfold laws_FnSortReference.f
  repeat' first
      | (with_reducible exact laws_zzFits1.mono _ _)
      | (with_reducible exact spec_AreNear.mono _ _)
      | (with_reducible exact spec_SameEdits.mono _ _ _)
      | (with_reducible exact spec_SizeOfEdits.mono _ _)
      | (with_reducible exact spec_TooLong.mono _ _)
      | (with_reducible exact LeO.refl _)
      | (with_reducible exact LeO.none _)
      | (with_reducible refine LeO.ite ?_ ?_)
      | (with_reducible refine LeO.bind ?_ (fun _ => ?_))
      | exact laws_zzFits1.mono _ _
      | exact spec_AreNear.mono _ _
      | exact spec_SameEdits.mono _ _ _
      | exact spec_SizeOfEdits.mono _ _
      | exact spec_TooLong.mono _ _
      | exact LeO.none _
      | refine LeO.ite ?_ ?_
      | refine LeO.bind ?_ (fun _ => ?_)
set_option maxHeartbeats 8000000 in
set_option maxRecDepth 100000 in
theorem laws_FnSortReference.calls (k : Nat) (A0 : Option Addr) (c0 : Nat) (l0 : List (S28)) (r : Bool) (w : World) (hr0 : Kd.C k28 w A0 l0.length l0) (hc0 : l0.length ≤ c0) (h : laws_FnSortReference.f k l0 = some r) :
    Calls Try.prog 3 #[.slice A0 l0.length c0] w fun e w' => e = .returned (.bool r) ∧ Below w.heap.size w w' := by
  have hu28 := Try.underlying28
  have HR0 := Aside0.mk hr0
  have HC0 := Aside0.mk hc0
  clear hr0 hc0
  have HB := Aside0.mk (Below.refl w.heap.size w)
  have H : ((laws_zzFits1.f k l0).bind fun t130 => (if t130 = true then ((spec_SizeOfEdits.f k l0).bind fun t131 => ((spec_TooLong.f k (([t131] : List Int))).bind fun t135 => (if t135 = true then (some true) else ((impl_SortEdits.f (([(⟨0, 0, (⟨#[120]⟩ : ByteArray)⟩ : S28)] : List (S28)))).bind fun t139 => (if (t139.length : Int) = 1 then ((spec_AreNear.f k l0).bind fun t142 => (if t142 = true then ((impl_SortEdits.f l0).bind fun t143 => ((spec_Sorted.f l0).bind fun t146 => ((spec_SameEdits.f k t143 t146).bind fun t149 => (some t149)))) else (some true))) else (some false)))))) else (some true))) = some r := h
  clear h
  replace H := Option.bind_eq_some_iff.mp H
  obtain ⟨t130, A20, H⟩ := H
  replace H : (if t130 = true then ((spec_SizeOfEdits.f k l0).bind fun t131 => ((spec_TooLong.f k (([t131] : List Int))).bind fun t135 => (if t135 = true then (some true) else ((impl_SortEdits.f (([(⟨0, 0, (⟨#[120]⟩ : ByteArray)⟩ : S28)] : List (S28)))).bind fun t139 => (if (t139.length : Int) = 1 then ((spec_AreNear.f k l0).bind fun t142 => (if t142 = true then ((impl_SortEdits.f l0).bind fun t143 => ((spec_Sorted.f l0).bind fun t146 => ((spec_SameEdits.f k t143 t146).bind fun t149 => (some t149)))) else (some true))) else (some false)))))) else (some true)) = some r := H
  have A2 := Aside0.mk A20
  clear A20
  by_cases c3 : t130 = true
  · subst c3
    have H1 : ((spec_SizeOfEdits.f k l0).bind fun t131 => ((spec_TooLong.f k (([t131] : List Int))).bind fun t135 => (if t135 = true then (some true) else ((impl_SortEdits.f (([(⟨0, 0, (⟨#[120]⟩ : ByteArray)⟩ : S28)] : List (S28)))).bind fun t139 => (if (t139.length : Int) = 1 then ((spec_AreNear.f k l0).bind fun t142 => (if t142 = true then ((impl_SortEdits.f l0).bind fun t143 => ((spec_Sorted.f l0).bind fun t146 => ((spec_SameEdits.f k t143 t146).bind fun t149 => (some t149)))) else (some true))) else (some false)))))) = some r := by rw [if_pos rfl] at H; exact H
    clear H
    have H := H1
    clear H1
    replace H := Option.bind_eq_some_iff.mp H
    obtain ⟨t131, A40, H⟩ := H
    replace H : ((spec_TooLong.f k (([t131] : List Int))).bind fun t135 => (if t135 = true then (some true) else ((impl_SortEdits.f (([(⟨0, 0, (⟨#[120]⟩ : ByteArray)⟩ : S28)] : List (S28)))).bind fun t139 => (if (t139.length : Int) = 1 then ((spec_AreNear.f k l0).bind fun t142 => (if t142 = true then ((impl_SortEdits.f l0).bind fun t143 => ((spec_Sorted.f l0).bind fun t146 => ((spec_SameEdits.f k t143 t146).bind fun t149 => (some t149)))) else (some true))) else (some false))))) = some r := H
    have A4 := Aside0.mk A40
    clear A40
    obtain ⟨y132, hy132⟩ : ∃ y_ : List Int, y_ = (([t131] : List Int)) := ⟨_, rfl⟩
    replace H : ((spec_TooLong.f k y132).bind fun t135 => (if t135 = true then (some true) else ((impl_SortEdits.f (([(⟨0, 0, (⟨#[120]⟩ : ByteArray)⟩ : S28)] : List (S28)))).bind fun t139 => (if (t139.length : Int) = 1 then ((spec_AreNear.f k l0).bind fun t142 => (if t142 = true then ((impl_SortEdits.f l0).bind fun t143 => ((spec_Sorted.f l0).bind fun t146 => ((spec_SameEdits.f k t143 t146).bind fun t149 => (some t149)))) else (some true))) else (some false))))) = some r := by first | (rw [hy132]; with_reducible exact H) | (have H2_ := (Option.bind_some _ _).symm.trans H; rw [hy132]; with_reducible exact H2_) | (have H2_ := (Option.bind_some _ _).symm.trans H; with_reducible exact H2_) | with_reducible exact H | (rw [hy132]; exact H) | exact H
    have Ny132 := Aside0.mk hy132
    clear hy132
    replace H := Option.bind_eq_some_iff.mp H
    obtain ⟨t135, A50, H⟩ := H
    replace H : (if t135 = true then (some true) else ((impl_SortEdits.f (([(⟨0, 0, (⟨#[120]⟩ : ByteArray)⟩ : S28)] : List (S28)))).bind fun t139 => (if (t139.length : Int) = 1 then ((spec_AreNear.f k l0).bind fun t142 => (if t142 = true then ((impl_SortEdits.f l0).bind fun t143 => ((spec_Sorted.f l0).bind fun t146 => ((spec_SameEdits.f k t143 t146).bind fun t149 => (some t149)))) else (some true))) else (some false)))) = some r := H
    have A5 := Aside0.mk A50
    clear A50
    by_cases c6 : t135 = true
    · subst c6
      have H1 : (some true) = some r := by rw [if_pos rfl] at H; exact H
      clear H
      have H := H1
      clear H1
      obtain rfl := Option.some.inj H
      go_enter Try.func3, Try.ntmps3
      go_wp2_with (first | ((with_reducible refine gate_callee (f := 6) rfl ?_); refine goesL_ (some 5) rfl rfl Try.func6 (by kernel_rfl) rfl #[.slice A0 l0.length c0] rfl (by (try simp only [List.map_toArray, List.map_cons, List.map_nil]); first | done | rfl | (simp only [List.length_drop, List.length_take]; rfl)) ?_; (with_reducible refine (laws_zzFits1.calls k _ _ l0 true _ ?side1 ?side2 A2.out).mono ?_); (case side1 => repeat (first | exact HR0.out | (with_reducible refine Kd.C_alloc ?_ _) | (with_reducible refine Kd.C_drewN ?_ _) | (with_reducible refine Kd.C_drew ?_))); (case side2 => exact HC0.out); rintro e w7 ⟨rfl, hb⟩; refine ⟨_, rfl, ?_⟩; have n0_ := Aside0.mk (below_step (by repeat (first | (with_reducible first | exact HB.out | apply below_alloc | apply pw_below_drewN | apply below_drew1) | exact HB.out)) hb); clear HB; have HB := n0_; clear n0_; (try clear hb); (try clear hb2); (try clear hk); (try clear hi)) | ((with_reducible refine gate_callee (f := 8) rfl ?_); refine goesL_ (some 8) rfl rfl Try.func8 (by kernel_rfl) rfl #[.slice A0 l0.length c0] rfl (by (try simp only [List.map_toArray, List.map_cons, List.map_nil]); first | done | rfl | (simp only [List.length_drop, List.length_take]; rfl)) ?_; (with_reducible refine (spec_SizeOfEdits.calls k _ _ l0 t131 _ ?side1 ?side2 A4.out).mono ?_); (case side1 => repeat (first | exact (Kd.C_below HR0.out HB.out) | (with_reducible refine Kd.C_alloc ?_ _) | (with_reducible refine Kd.C_drewN ?_ _) | (with_reducible refine Kd.C_drew ?_))); (case side2 => exact HC0.out); rintro e w8 ⟨rfl, hb⟩; refine ⟨_, rfl, ?_⟩; have n0_ := Aside0.mk (below_step (by repeat (first | (with_reducible first | exact HB.out | apply below_alloc | apply pw_below_drewN | apply below_drew1) | exact HB.out)) hb); clear HB; have HB := n0_; clear n0_; (try clear hb); (try clear hb2); (try clear hk); (try clear hi)) | ((with_reducible refine gate_dst (N := 9) rfl ?_); refine Kd.R_lit (Kd.int .i64) _ 3 ?hg (N := 9) ?hd (xs := ([t131] : List Int)) (inner := [.int .i64 t131]) (ok := fun _ => True) (okp := fun _ => True) ?hr ?hp (fun _ hk => hk) trivial (Below.refl _ _) (Nat.le_refl _) (by simp) ?_; (case hd => rfl); (case hg => rfl); (case hr => first | (go_simp; done) | (go_simp; rfl)); (case hp => exact (Reps.one (show Kd.M (Kd.int .i64) _ _ _ t131 [.int .i64 t131] from rfl) (Reps.none _ _))); intro v133 w9 ho10 hb hg_ hnew_; clear hg_ hnew_; (first | rw [← Ny132.out] at ho10 | (simp only [Int.reduceToNat] at ho10; rw [← Ny132.out] at ho10)); have n0_ := Aside0.mk (Kd.R_lower ho10 (below_size (by repeat (first | (with_reducible first | exact HB.out | apply below_alloc | apply pw_below_drewN | apply below_drew1) | exact HB.out)))); have n1_ := Aside0.mk (below_step (by repeat (first | (with_reducible first | exact HB.out | apply below_alloc | apply pw_below_drewN | apply below_drew1) | exact HB.out)) hb); clear HB; have HO134 := n0_; have HB := n1_; clear n0_ n1_; clear hb ho10; obtain ⟨Ao11, co11, eo11⟩ := Kd.R_slice HO134.out; subst eo11) | ((with_reducible refine gate_callee (f := 7) rfl ?_); refine goesL_ (some 10) rfl rfl Try.func7 (by kernel_rfl) rfl #[.slice Ao11 y132.length co11] rfl (by (try simp only [List.map_toArray, List.map_cons, List.map_nil]); first | done | rfl | (simp only [List.length_drop, List.length_take]; rfl)) ?_; (with_reducible refine (spec_TooLong.calls k _ _ y132 true _ ?side1 ?side2 A5.out).mono ?_); (case side1 => repeat (first | exact (Kd.R_reads' HO134.out).2.2 | (with_reducible refine Kd.C_alloc ?_ _) | (with_reducible refine Kd.C_drewN ?_ _) | (with_reducible refine Kd.C_drew ?_))); (case side2 => exact (Kd.R_reads' HO134.out).2.1); rintro e w' ⟨rfl, ⟨nd, rfl⟩⟩; refine ⟨_, rfl, ?_⟩))
      go_ret
      exact ⟨by first | rfl | (simp [errW_none, errW_some] <;> rfl) | (simp [*, errW_none, errW_some] <;> rfl), by repeat (first | (with_reducible first | exact HB.out | apply below_alloc | apply pw_below_drewN | apply below_drew1) | exact HB.out)⟩
    · replace c6 := Bool.eq_false_iff.mpr c6
      subst c6
      have H1 : ((impl_SortEdits.f (([(⟨0, 0, (⟨#[120]⟩ : ByteArray)⟩ : S28)] : List (S28)))).bind fun t139 => (if (t139.length : Int) = 1 then ((spec_AreNear.f k l0).bind fun t142 => (if t142 = true then ((impl_SortEdits.f l0).bind fun t143 => ((spec_Sorted.f l0).bind fun t146 => ((spec_SameEdits.f k t143 t146).bind fun t149 => (some t149)))) else (some true))) else (some false))) = some r := by rw [if_neg (show ¬ (false = true) by decide)] at H; exact H
      clear H
      have H := H1
      clear H1
      obtain ⟨y136, hy136⟩ : ∃ y_ : List (S28), y_ = (([(⟨0, 0, (⟨#[120]⟩ : ByteArray)⟩ : S28)] : List (S28))) := ⟨_, rfl⟩
      replace H : ((impl_SortEdits.f y136).bind fun t139 => (if (t139.length : Int) = 1 then ((spec_AreNear.f k l0).bind fun t142 => (if t142 = true then ((impl_SortEdits.f l0).bind fun t143 => ((spec_Sorted.f l0).bind fun t146 => ((spec_SameEdits.f k t143 t146).bind fun t149 => (some t149)))) else (some true))) else (some false))) = some r := by first | (rw [hy136]; with_reducible exact H) | (have H2_ := (Option.bind_some _ _).symm.trans H; rw [hy136]; with_reducible exact H2_) | (have H2_ := (Option.bind_some _ _).symm.trans H; with_reducible exact H2_) | with_reducible exact H | (rw [hy136]; exact H) | exact H
      have Ny136 := Aside0.mk hy136
      clear hy136
      replace H := Option.bind_eq_some_iff.mp H
      obtain ⟨t139, A120, H⟩ := H
      replace H : (if (t139.length : Int) = 1 then ((spec_AreNear.f k l0).bind fun t142 => (if t142 = true then ((impl_SortEdits.f l0).bind fun t143 => ((spec_Sorted.f l0).bind fun t146 => ((spec_SameEdits.f k t143 t146).bind fun t149 => (some t149)))) else (some true))) else (some false)) = some r := H
      have A12 := Aside0.mk A120
      clear A120
      by_cases c13 : (t139.length : Int) = 1
      · rw [if_pos c13] at H
        have c13b0 : ((t139.length : Int) == 1) = true := beq_iff_eq.mpr c13
        have c13b1 : ((t139.length : Int) != 1) = false := bne_eq_false_iff_eq.mpr c13
        clear c13
        replace H := Option.bind_eq_some_iff.mp H
        obtain ⟨t142, A140, H⟩ := H
        replace H : (if t142 = true then ((impl_SortEdits.f l0).bind fun t143 => ((spec_Sorted.f l0).bind fun t146 => ((spec_SameEdits.f k t143 t146).bind fun t149 => (some t149)))) else (some true)) = some r := H
        have A14 := Aside0.mk A140
        clear A140
        by_cases c15 : t142 = true
        · subst c15
          have H1 : ((impl_SortEdits.f l0).bind fun t143 => ((spec_Sorted.f l0).bind fun t146 => ((spec_SameEdits.f k t143 t146).bind fun t149 => (some t149)))) = some r := by rw [if_pos rfl] at H; exact H
          clear H
          have H := H1
          clear H1
          replace H := Option.bind_eq_some_iff.mp H
          obtain ⟨t143, A160, H⟩ := H
          replace H : ((spec_Sorted.f l0).bind fun t146 => ((spec_SameEdits.f k t143 t146).bind fun t149 => (some t149))) = some r := H
          have A16 := Aside0.mk A160
          clear A160
          replace H := Option.bind_eq_some_iff.mp H
          obtain ⟨t146, A170, H⟩ := H
          replace H : ((spec_SameEdits.f k t143 t146).bind fun t149 => (some t149)) = some r := H
          have A17 := Aside0.mk A170
          clear A170
          replace H := Option.bind_eq_some_iff.mp H
          obtain ⟨t149, A180, H⟩ := H
          replace H : (some t149) = some r := H
          have A18 := Aside0.mk A180
          clear A180
          obtain rfl := Option.some.inj H
          go_enter Try.func3, Try.ntmps3
          go_wp2_with (first | ((with_reducible refine gate_callee (f := 6) rfl ?_); refine goesL_ (some 5) rfl rfl Try.func6 (by kernel_rfl) rfl #[.slice A0 l0.length c0] rfl (by (try simp only [List.map_toArray, List.map_cons, List.map_nil]); first | done | rfl | (simp only [List.length_drop, List.length_take]; rfl)) ?_; (with_reducible refine (laws_zzFits1.calls k _ _ l0 true _ ?side1 ?side2 A2.out).mono ?_); (case side1 => repeat (first | exact HR0.out | (with_reducible refine Kd.C_alloc ?_ _) | (with_reducible refine Kd.C_drewN ?_ _) | (with_reducible refine Kd.C_drew ?_))); (case side2 => exact HC0.out); rintro e w19 ⟨rfl, hb⟩; refine ⟨_, rfl, ?_⟩; have n0_ := Aside0.mk (below_step (by repeat (first | (with_reducible first | exact HB.out | apply below_alloc | apply pw_below_drewN | apply below_drew1) | exact HB.out)) hb); clear HB; have HB := n0_; clear n0_; (try clear hb); (try clear hb2); (try clear hk); (try clear hi)) | ((with_reducible refine gate_callee (f := 8) rfl ?_); refine goesL_ (some 8) rfl rfl Try.func8 (by kernel_rfl) rfl #[.slice A0 l0.length c0] rfl (by (try simp only [List.map_toArray, List.map_cons, List.map_nil]); first | done | rfl | (simp only [List.length_drop, List.length_take]; rfl)) ?_; (with_reducible refine (spec_SizeOfEdits.calls k _ _ l0 t131 _ ?side1 ?side2 A4.out).mono ?_); (case side1 => repeat (first | exact (Kd.C_below HR0.out HB.out) | (with_reducible refine Kd.C_alloc ?_ _) | (with_reducible refine Kd.C_drewN ?_ _) | (with_reducible refine Kd.C_drew ?_))); (case side2 => exact HC0.out); rintro e w20 ⟨rfl, hb⟩; refine ⟨_, rfl, ?_⟩; have n0_ := Aside0.mk (below_step (by repeat (first | (with_reducible first | exact HB.out | apply below_alloc | apply pw_below_drewN | apply below_drew1) | exact HB.out)) hb); clear HB; have HB := n0_; clear n0_; (try clear hb); (try clear hb2); (try clear hk); (try clear hi)) | ((with_reducible refine gate_dst (N := 9) rfl ?_); refine Kd.R_lit (Kd.int .i64) _ 3 ?hg (N := 9) ?hd (xs := ([t131] : List Int)) (inner := [.int .i64 t131]) (ok := fun _ => True) (okp := fun _ => True) ?hr ?hp (fun _ hk => hk) trivial (Below.refl _ _) (Nat.le_refl _) (by simp) ?_; (case hd => rfl); (case hg => rfl); (case hr => first | (go_simp; done) | (go_simp; rfl)); (case hp => exact (Reps.one (show Kd.M (Kd.int .i64) _ _ _ t131 [.int .i64 t131] from rfl) (Reps.none _ _))); intro v133 w21 ho22 hb hg_ hnew_; clear hg_ hnew_; (first | rw [← Ny132.out] at ho22 | (simp only [Int.reduceToNat] at ho22; rw [← Ny132.out] at ho22)); have n0_ := Aside0.mk (Kd.R_lower ho22 (below_size (by repeat (first | (with_reducible first | exact HB.out | apply below_alloc | apply pw_below_drewN | apply below_drew1) | exact HB.out)))); have n1_ := Aside0.mk (below_step (by repeat (first | (with_reducible first | exact HB.out | apply below_alloc | apply pw_below_drewN | apply below_drew1) | exact HB.out)) hb); clear HB; have HO134 := n0_; have HB := n1_; clear n0_ n1_; clear hb ho22; obtain ⟨Ao23, co23, eo23⟩ := Kd.R_slice HO134.out; subst eo23) | ((with_reducible refine gate_callee (f := 7) rfl ?_); refine goesL_ (some 10) rfl rfl Try.func7 (by kernel_rfl) rfl #[.slice Ao23 y132.length co23] rfl (by (try simp only [List.map_toArray, List.map_cons, List.map_nil]); first | done | rfl | (simp only [List.length_drop, List.length_take]; rfl)) ?_; (with_reducible refine (spec_TooLong.calls k _ _ y132 false _ ?side1 ?side2 A5.out).mono ?_); (case side1 => repeat (first | exact (Kd.R_reads' HO134.out).2.2 | (with_reducible refine Kd.C_alloc ?_ _) | (with_reducible refine Kd.C_drewN ?_ _) | (with_reducible refine Kd.C_drew ?_))); (case side2 => exact (Kd.R_reads' HO134.out).2.1); rintro e w' ⟨rfl, ⟨nd, rfl⟩⟩; refine ⟨_, rfl, ?_⟩) | ((with_reducible refine gate_dst (N := 12) rfl ?_); refine Kd.R_lit k28 _ 28 ?hg (N := 12) ?hd (xs := ([(⟨0, 0, (⟨#[120]⟩ : ByteArray)⟩ : S28)] : List (S28))) (inner := [.int .i64 0, .int .i64 0, .string (⟨#[120]⟩ : ByteArray)]) (ok := fun _ => True) (okp := fun _ => True) ?hr ?hp (fun _ hk => hk) trivial (Below.refl _ _) (Nat.le_refl _) (by simp) ?_; (case hd => rfl); (case hg => rfl); (case hr => first | (go_simp; done) | (go_simp; rfl)); (case hp => exact (Reps.c3 (show Kd.M k28 _ _ _ (⟨0, 0, (⟨#[120]⟩ : ByteArray)⟩ : S28) [.int .i64 0, .int .i64 0, .string (⟨#[120]⟩ : ByteArray)] from (k28_mkM _ _ _ (⟨0, 0, (⟨#[120]⟩ : ByteArray)⟩ : S28) )) (Reps.none _ _))); intro v137 w24 ho25 hb hg_ hnew_; clear hg_ hnew_; (first | rw [← Ny136.out] at ho25 | (simp only [Int.reduceToNat] at ho25; rw [← Ny136.out] at ho25)); have n0_ := Aside0.mk (Kd.R_below (by (with_reducible repeat (first | apply Kd.R_alloc | apply Kd.R_drewN | apply Kd.R_drew)); exact HO134.out) hb); have n1_ := Aside0.mk (Kd.R_lower ho25 (below_size (by repeat (first | (with_reducible first | exact HB.out | apply below_alloc | apply pw_below_drewN | apply below_drew1) | exact HB.out)))); have n2_ := Aside0.mk (below_step (by repeat (first | (with_reducible first | exact HB.out | apply below_alloc | apply pw_below_drewN | apply below_drew1) | exact HB.out)) hb); clear HO134; clear HB; have HO134 := n0_; have HO138 := n1_; have HB := n2_; clear n0_ n1_ n2_; clear hb ho25; obtain ⟨Ao26, co26, eo26⟩ := Kd.R_slice HO138.out; subst eo26) | ((with_reducible refine gate_callee (f := 9) rfl ?_); refine goesL_ (some 13) rfl rfl Try.func9 (by kernel_rfl) rfl #[.slice Ao26 y136.length co26] rfl (by (try simp only [List.map_toArray, List.map_cons, List.map_nil]); first | done | rfl | (simp only [List.length_drop, List.length_take]; rfl)) ?_; (with_reducible refine (impl_SortEdits.calls _ _ y136 t139 _ ?side1 ?side2 A12.out).mono ?_); (case side1 => repeat (first | exact (Kd.R_reads' HO138.out).2.2 | (with_reducible refine Kd.C_alloc ?_ _) | (with_reducible refine Kd.C_drewN ?_ _) | (with_reducible refine Kd.C_drew ?_))); (case side2 => exact (Kd.R_reads' HO138.out).2.1); rintro e w27 ⟨v140, rfl, ho0, hb⟩; refine ⟨_, rfl, ?_⟩; have n0_ := Aside0.mk (Kd.R_below (by (with_reducible repeat (first | apply Kd.R_alloc | apply Kd.R_drewN | apply Kd.R_drew)); exact HO134.out) hb); have n1_ := Aside0.mk (Kd.R_elder' (by (with_reducible repeat (first | apply Kd.R_alloc | apply Kd.R_drewN | apply Kd.R_drew)); exact HO138.out) (Kd.R_base ho0) hb); have n2_ := Aside0.mk (Kd.R_lower (Kd.R_new' ho0 (Kd.R_lt (by (with_reducible repeat (first | apply Kd.R_alloc | apply Kd.R_drewN | apply Kd.R_drew)); exact HO138.out))) (below_size (by repeat (first | (with_reducible first | exact HB.out | apply below_alloc | apply pw_below_drewN | apply below_drew1) | exact HB.out)))); have n3_ := Aside0.mk (below_step (by repeat (first | (with_reducible first | exact HB.out | apply below_alloc | apply pw_below_drewN | apply below_drew1) | exact HB.out)) hb); clear HO134; clear HO138; clear HB; have HO134 := n0_; have HO138 := n1_; have HO141 := n2_; have HB := n3_; clear n0_ n1_ n2_ n3_; (try clear hb); (try clear hb2); (try clear hk); (try clear hi); (try clear ho0); obtain ⟨Ao28, co28, eo28⟩ := Kd.R_slice HO141.out; subst eo28) | (go_at_call 10; (with_reducible refine (spec_AreNear.calls k _ _ l0 true _ ?side1 ?side2 A14.out).mono ?_); (case side1 => repeat (first | exact (Kd.C_below HR0.out HB.out) | (with_reducible refine Kd.C_alloc ?_ _) | (with_reducible refine Kd.C_drewN ?_ _) | (with_reducible refine Kd.C_drew ?_))); (case side2 => exact HC0.out); rintro e w29 ⟨rfl, hb⟩; have n0_ := Aside0.mk (Kd.R_below (by (with_reducible repeat (first | apply Kd.R_alloc | apply Kd.R_drewN | apply Kd.R_drew)); exact HO134.out) hb); have n1_ := Aside0.mk (Kd.R_below (by (with_reducible repeat (first | apply Kd.R_alloc | apply Kd.R_drewN | apply Kd.R_drew)); exact HO138.out) hb); have n2_ := Aside0.mk (Kd.R_below (by (with_reducible repeat (first | apply Kd.R_alloc | apply Kd.R_drewN | apply Kd.R_drew)); exact HO141.out) hb); have n3_ := Aside0.mk (below_step (by repeat (first | (with_reducible first | exact HB.out | apply below_alloc | apply pw_below_drewN | apply below_drew1) | exact HB.out)) hb); clear HO134; clear HO138; clear HO141; clear HB; have HO134 := n0_; have HO138 := n1_; have HO141 := n2_; have HB := n3_; clear n0_ n1_ n2_ n3_; (try clear hb); (try clear hb2); (try clear hk); (try clear hi)) | (go_at_call 9; (with_reducible refine (impl_SortEdits.calls _ _ l0 t143 _ ?side1 ?side2 A16.out).mono ?_); (case side1 => repeat (first | exact (Kd.C_below HR0.out HB.out) | (with_reducible refine Kd.C_alloc ?_ _) | (with_reducible refine Kd.C_drewN ?_ _) | (with_reducible refine Kd.C_drew ?_))); (case side2 => exact HC0.out); rintro e w30 ⟨v144, rfl, ho0, hb⟩; have n0_ := Aside0.mk (Kd.R_below (by (with_reducible repeat (first | apply Kd.R_alloc | apply Kd.R_drewN | apply Kd.R_drew)); exact HO134.out) hb); have n1_ := Aside0.mk (Kd.R_elder' (by (with_reducible repeat (first | apply Kd.R_alloc | apply Kd.R_drewN | apply Kd.R_drew)); exact HO138.out) (Kd.R_base ho0) hb); have n2_ := Aside0.mk (Kd.R_elder' (by (with_reducible repeat (first | apply Kd.R_alloc | apply Kd.R_drewN | apply Kd.R_drew)); exact HO141.out) (Kd.R_base ho0) hb); have n3_ := Aside0.mk (Kd.R_lower (Kd.R_new' (Kd.R_new' ho0 (Kd.R_lt (by (with_reducible repeat (first | apply Kd.R_alloc | apply Kd.R_drewN | apply Kd.R_drew)); exact HO138.out))) (Kd.R_lt (by (with_reducible repeat (first | apply Kd.R_alloc | apply Kd.R_drewN | apply Kd.R_drew)); exact HO141.out))) (below_size (by repeat (first | (with_reducible first | exact HB.out | apply below_alloc | apply pw_below_drewN | apply below_drew1) | exact HB.out)))); have n4_ := Aside0.mk (below_step (by repeat (first | (with_reducible first | exact HB.out | apply below_alloc | apply pw_below_drewN | apply below_drew1) | exact HB.out)) hb); clear HO134; clear HO138; clear HO141; clear HB; have HO134 := n0_; have HO138 := n1_; have HO141 := n2_; have HO145 := n3_; have HB := n4_; clear n0_ n1_ n2_ n3_ n4_; (try clear hb); (try clear hb2); (try clear hk); (try clear hi); (try clear ho0)) | (go_at_call 12; (with_reducible refine (spec_Sorted.calls _ _ l0 t146 _ ?side1 ?side2 A17.out).mono ?_); (case side1 => repeat (first | exact (Kd.C_below HR0.out HB.out) | (with_reducible refine Kd.C_alloc ?_ _) | (with_reducible refine Kd.C_drewN ?_ _) | (with_reducible refine Kd.C_drew ?_))); (case side2 => exact HC0.out); rintro e w31 ⟨v147, rfl, ho0, hb⟩; have n0_ := Aside0.mk (Kd.R_below (by (with_reducible repeat (first | apply Kd.R_alloc | apply Kd.R_drewN | apply Kd.R_drew)); exact HO134.out) hb); have n1_ := Aside0.mk (Kd.R_elder' (by (with_reducible repeat (first | apply Kd.R_alloc | apply Kd.R_drewN | apply Kd.R_drew)); exact HO138.out) (Kd.R_base ho0) hb); have n2_ := Aside0.mk (Kd.R_elder' (by (with_reducible repeat (first | apply Kd.R_alloc | apply Kd.R_drewN | apply Kd.R_drew)); exact HO141.out) (Kd.R_base ho0) hb); have n3_ := Aside0.mk (Kd.R_elder' (by (with_reducible repeat (first | apply Kd.R_alloc | apply Kd.R_drewN | apply Kd.R_drew)); exact HO145.out) (Kd.R_base ho0) hb); have n4_ := Aside0.mk (Kd.R_lower (Kd.R_new' (Kd.R_new' (Kd.R_new' ho0 (Kd.R_lt (by (with_reducible repeat (first | apply Kd.R_alloc | apply Kd.R_drewN | apply Kd.R_drew)); exact HO138.out))) (Kd.R_lt (by (with_reducible repeat (first | apply Kd.R_alloc | apply Kd.R_drewN | apply Kd.R_drew)); exact HO141.out))) (Kd.R_lt (by (with_reducible repeat (first | apply Kd.R_alloc | apply Kd.R_drewN | apply Kd.R_drew)); exact HO145.out))) (below_size (by repeat (first | (with_reducible first | exact HB.out | apply below_alloc | apply pw_below_drewN | apply below_drew1) | exact HB.out)))); have n5_ := Aside0.mk (below_step (by repeat (first | (with_reducible first | exact HB.out | apply below_alloc | apply pw_below_drewN | apply below_drew1) | exact HB.out)) hb); clear HO134; clear HO138; clear HO141; clear HO145; clear HB; have HO134 := n0_; have HO138 := n1_; have HO141 := n2_; have HO145 := n3_; have HO148 := n4_; have HB := n5_; clear n0_ n1_ n2_ n3_ n4_ n5_; (try clear hb); (try clear hb2); (try clear hk); (try clear hi); (try clear ho0); obtain ⟨Ao32, co32, eo32⟩ := Kd.R_slice HO145.out; subst eo32; obtain ⟨Ao33, co33, eo33⟩ := Kd.R_slice HO148.out; subst eo33) | (go_at_call 11; (with_reducible refine (spec_SameEdits.calls k _ _ t143 _ _ t146 t149 _ ?side1 ?side2 ?side3 ?side4 A18.out).mono ?_); (case side1 => repeat (first | exact (Kd.R_reads' HO145.out).2.2 | (with_reducible refine Kd.C_alloc ?_ _) | (with_reducible refine Kd.C_drewN ?_ _) | (with_reducible refine Kd.C_drew ?_))); (case side2 => exact (Kd.R_reads' HO145.out).2.1); (case side3 => repeat (first | exact (Kd.R_reads' HO148.out).2.2 | (with_reducible refine Kd.C_alloc ?_ _) | (with_reducible refine Kd.C_drewN ?_ _) | (with_reducible refine Kd.C_drew ?_))); (case side4 => exact (Kd.R_reads' HO148.out).2.1); rintro e w' ⟨rfl, ⟨nd, rfl⟩⟩))
          go_ret
          exact ⟨by first | rfl | (simp [errW_none, errW_some] <;> rfl) | (simp [*, errW_none, errW_some] <;> rfl), by repeat (first | (with_reducible first | exact HB.out | apply below_alloc | apply pw_below_drewN | apply below_drew1) | exact HB.out)⟩
        · replace c15 := Bool.eq_false_iff.mpr c15
          subst c15
          have H1 : (some true) = some r := by rw [if_neg (show ¬ (false = true) by decide)] at H; exact H
          clear H
          have H := H1
          clear H1
          obtain rfl := Option.some.inj H
          go_enter Try.func3, Try.ntmps3
          go_wp2_with (first | ((with_reducible refine gate_callee (f := 6) rfl ?_); refine goesL_ (some 5) rfl rfl Try.func6 (by kernel_rfl) rfl #[.slice A0 l0.length c0] rfl (by (try simp only [List.map_toArray, List.map_cons, List.map_nil]); first | done | rfl | (simp only [List.length_drop, List.length_take]; rfl)) ?_; (with_reducible refine (laws_zzFits1.calls k _ _ l0 true _ ?side1 ?side2 A2.out).mono ?_); (case side1 => repeat (first | exact HR0.out | (with_reducible refine Kd.C_alloc ?_ _) | (with_reducible refine Kd.C_drewN ?_ _) | (with_reducible refine Kd.C_drew ?_))); (case side2 => exact HC0.out); rintro e w34 ⟨rfl, hb⟩; refine ⟨_, rfl, ?_⟩; have n0_ := Aside0.mk (below_step (by repeat (first | (with_reducible first | exact HB.out | apply below_alloc | apply pw_below_drewN | apply below_drew1) | exact HB.out)) hb); clear HB; have HB := n0_; clear n0_; (try clear hb); (try clear hb2); (try clear hk); (try clear hi)) | ((with_reducible refine gate_callee (f := 8) rfl ?_); refine goesL_ (some 8) rfl rfl Try.func8 (by kernel_rfl) rfl #[.slice A0 l0.length c0] rfl (by (try simp only [List.map_toArray, List.map_cons, List.map_nil]); first | done | rfl | (simp only [List.length_drop, List.length_take]; rfl)) ?_; (with_reducible refine (spec_SizeOfEdits.calls k _ _ l0 t131 _ ?side1 ?side2 A4.out).mono ?_); (case side1 => repeat (first | exact (Kd.C_below HR0.out HB.out) | (with_reducible refine Kd.C_alloc ?_ _) | (with_reducible refine Kd.C_drewN ?_ _) | (with_reducible refine Kd.C_drew ?_))); (case side2 => exact HC0.out); rintro e w35 ⟨rfl, hb⟩; refine ⟨_, rfl, ?_⟩; have n0_ := Aside0.mk (below_step (by repeat (first | (with_reducible first | exact HB.out | apply below_alloc | apply pw_below_drewN | apply below_drew1) | exact HB.out)) hb); clear HB; have HB := n0_; clear n0_; (try clear hb); (try clear hb2); (try clear hk); (try clear hi)) | ((with_reducible refine gate_dst (N := 9) rfl ?_); refine Kd.R_lit (Kd.int .i64) _ 3 ?hg (N := 9) ?hd (xs := ([t131] : List Int)) (inner := [.int .i64 t131]) (ok := fun _ => True) (okp := fun _ => True) ?hr ?hp (fun _ hk => hk) trivial (Below.refl _ _) (Nat.le_refl _) (by simp) ?_; (case hd => rfl); (case hg => rfl); (case hr => first | (go_simp; done) | (go_simp; rfl)); (case hp => exact (Reps.one (show Kd.M (Kd.int .i64) _ _ _ t131 [.int .i64 t131] from rfl) (Reps.none _ _))); intro v133 w36 ho37 hb hg_ hnew_; clear hg_ hnew_; (first | rw [← Ny132.out] at ho37 | (simp only [Int.reduceToNat] at ho37; rw [← Ny132.out] at ho37)); have n0_ := Aside0.mk (Kd.R_lower ho37 (below_size (by repeat (first | (with_reducible first | exact HB.out | apply below_alloc | apply pw_below_drewN | apply below_drew1) | exact HB.out)))); have n1_ := Aside0.mk (below_step (by repeat (first | (with_reducible first | exact HB.out | apply below_alloc | apply pw_below_drewN | apply below_drew1) | exact HB.out)) hb); clear HB; have HO134 := n0_; have HB := n1_; clear n0_ n1_; clear hb ho37; obtain ⟨Ao38, co38, eo38⟩ := Kd.R_slice HO134.out; subst eo38) | ((with_reducible refine gate_callee (f := 7) rfl ?_); refine goesL_ (some 10) rfl rfl Try.func7 (by kernel_rfl) rfl #[.slice Ao38 y132.length co38] rfl (by (try simp only [List.map_toArray, List.map_cons, List.map_nil]); first | done | rfl | (simp only [List.length_drop, List.length_take]; rfl)) ?_; (with_reducible refine (spec_TooLong.calls k _ _ y132 false _ ?side1 ?side2 A5.out).mono ?_); (case side1 => repeat (first | exact (Kd.R_reads' HO134.out).2.2 | (with_reducible refine Kd.C_alloc ?_ _) | (with_reducible refine Kd.C_drewN ?_ _) | (with_reducible refine Kd.C_drew ?_))); (case side2 => exact (Kd.R_reads' HO134.out).2.1); rintro e w' ⟨rfl, ⟨nd, rfl⟩⟩; refine ⟨_, rfl, ?_⟩) | ((with_reducible refine gate_dst (N := 12) rfl ?_); refine Kd.R_lit k28 _ 28 ?hg (N := 12) ?hd (xs := ([(⟨0, 0, (⟨#[120]⟩ : ByteArray)⟩ : S28)] : List (S28))) (inner := [.int .i64 0, .int .i64 0, .string (⟨#[120]⟩ : ByteArray)]) (ok := fun _ => True) (okp := fun _ => True) ?hr ?hp (fun _ hk => hk) trivial (Below.refl _ _) (Nat.le_refl _) (by simp) ?_; (case hd => rfl); (case hg => rfl); (case hr => first | (go_simp; done) | (go_simp; rfl)); (case hp => exact (Reps.c3 (show Kd.M k28 _ _ _ (⟨0, 0, (⟨#[120]⟩ : ByteArray)⟩ : S28) [.int .i64 0, .int .i64 0, .string (⟨#[120]⟩ : ByteArray)] from (k28_mkM _ _ _ (⟨0, 0, (⟨#[120]⟩ : ByteArray)⟩ : S28) )) (Reps.none _ _))); intro v137 w39 ho40 hb hg_ hnew_; clear hg_ hnew_; (first | rw [← Ny136.out] at ho40 | (simp only [Int.reduceToNat] at ho40; rw [← Ny136.out] at ho40)); have n0_ := Aside0.mk (Kd.R_below (by (with_reducible repeat (first | apply Kd.R_alloc | apply Kd.R_drewN | apply Kd.R_drew)); exact HO134.out) hb); have n1_ := Aside0.mk (Kd.R_lower ho40 (below_size (by repeat (first | (with_reducible first | exact HB.out | apply below_alloc | apply pw_below_drewN | apply below_drew1) | exact HB.out)))); have n2_ := Aside0.mk (below_step (by repeat (first | (with_reducible first | exact HB.out | apply below_alloc | apply pw_below_drewN | apply below_drew1) | exact HB.out)) hb); clear HO134; clear HB; have HO134 := n0_; have HO138 := n1_; have HB := n2_; clear n0_ n1_ n2_; clear hb ho40; obtain ⟨Ao41, co41, eo41⟩ := Kd.R_slice HO138.out; subst eo41) | ((with_reducible refine gate_callee (f := 9) rfl ?_); refine goesL_ (some 13) rfl rfl Try.func9 (by kernel_rfl) rfl #[.slice Ao41 y136.length co41] rfl (by (try simp only [List.map_toArray, List.map_cons, List.map_nil]); first | done | rfl | (simp only [List.length_drop, List.length_take]; rfl)) ?_; (with_reducible refine (impl_SortEdits.calls _ _ y136 t139 _ ?side1 ?side2 A12.out).mono ?_); (case side1 => repeat (first | exact (Kd.R_reads' HO138.out).2.2 | (with_reducible refine Kd.C_alloc ?_ _) | (with_reducible refine Kd.C_drewN ?_ _) | (with_reducible refine Kd.C_drew ?_))); (case side2 => exact (Kd.R_reads' HO138.out).2.1); rintro e w42 ⟨v140, rfl, ho0, hb⟩; refine ⟨_, rfl, ?_⟩; have n0_ := Aside0.mk (Kd.R_below (by (with_reducible repeat (first | apply Kd.R_alloc | apply Kd.R_drewN | apply Kd.R_drew)); exact HO134.out) hb); have n1_ := Aside0.mk (Kd.R_elder' (by (with_reducible repeat (first | apply Kd.R_alloc | apply Kd.R_drewN | apply Kd.R_drew)); exact HO138.out) (Kd.R_base ho0) hb); have n2_ := Aside0.mk (Kd.R_lower (Kd.R_new' ho0 (Kd.R_lt (by (with_reducible repeat (first | apply Kd.R_alloc | apply Kd.R_drewN | apply Kd.R_drew)); exact HO138.out))) (below_size (by repeat (first | (with_reducible first | exact HB.out | apply below_alloc | apply pw_below_drewN | apply below_drew1) | exact HB.out)))); have n3_ := Aside0.mk (below_step (by repeat (first | (with_reducible first | exact HB.out | apply below_alloc | apply pw_below_drewN | apply below_drew1) | exact HB.out)) hb); clear HO134; clear HO138; clear HB; have HO134 := n0_; have HO138 := n1_; have HO141 := n2_; have HB := n3_; clear n0_ n1_ n2_ n3_; (try clear hb); (try clear hb2); (try clear hk); (try clear hi); (try clear ho0); obtain ⟨Ao43, co43, eo43⟩ := Kd.R_slice HO141.out; subst eo43) | (go_at_call 10; (with_reducible refine (spec_AreNear.calls k _ _ l0 false _ ?side1 ?side2 A14.out).mono ?_); (case side1 => repeat (first | exact (Kd.C_below HR0.out HB.out) | (with_reducible refine Kd.C_alloc ?_ _) | (with_reducible refine Kd.C_drewN ?_ _) | (with_reducible refine Kd.C_drew ?_))); (case side2 => exact HC0.out); rintro e w44 ⟨rfl, hb⟩; have n0_ := Aside0.mk (Kd.R_below (by (with_reducible repeat (first | apply Kd.R_alloc | apply Kd.R_drewN | apply Kd.R_drew)); exact HO134.out) hb); have n1_ := Aside0.mk (Kd.R_below (by (with_reducible repeat (first | apply Kd.R_alloc | apply Kd.R_drewN | apply Kd.R_drew)); exact HO138.out) hb); have n2_ := Aside0.mk (Kd.R_below (by (with_reducible repeat (first | apply Kd.R_alloc | apply Kd.R_drewN | apply Kd.R_drew)); exact HO141.out) hb); have n3_ := Aside0.mk (below_step (by repeat (first | (with_reducible first | exact HB.out | apply below_alloc | apply pw_below_drewN | apply below_drew1) | exact HB.out)) hb); clear HO134; clear HO138; clear HO141; clear HB; have HO134 := n0_; have HO138 := n1_; have HO141 := n2_; have HB := n3_; clear n0_ n1_ n2_ n3_; (try clear hb); (try clear hb2); (try clear hk); (try clear hi)))
          go_ret
          exact ⟨by first | rfl | (simp [errW_none, errW_some] <;> rfl) | (simp [*, errW_none, errW_some] <;> rfl), by repeat (first | (with_reducible first | exact HB.out | apply below_alloc | apply pw_below_drewN | apply below_drew1) | exact HB.out)⟩
      · rw [if_neg c13] at H
        have c13b0 : ((t139.length : Int) == 1) = false := beq_eq_false_iff_ne.mpr c13
        have c13b1 : ((t139.length : Int) != 1) = true := bne_iff_ne.mpr c13
        obtain rfl := Option.some.inj H
        go_enter Try.func3, Try.ntmps3
        go_wp2_with (first | ((with_reducible refine gate_callee (f := 6) rfl ?_); refine goesL_ (some 5) rfl rfl Try.func6 (by kernel_rfl) rfl #[.slice A0 l0.length c0] rfl (by (try simp only [List.map_toArray, List.map_cons, List.map_nil]); first | done | rfl | (simp only [List.length_drop, List.length_take]; rfl)) ?_; (with_reducible refine (laws_zzFits1.calls k _ _ l0 true _ ?side1 ?side2 A2.out).mono ?_); (case side1 => repeat (first | exact HR0.out | (with_reducible refine Kd.C_alloc ?_ _) | (with_reducible refine Kd.C_drewN ?_ _) | (with_reducible refine Kd.C_drew ?_))); (case side2 => exact HC0.out); rintro e w45 ⟨rfl, hb⟩; refine ⟨_, rfl, ?_⟩; have n0_ := Aside0.mk (below_step (by repeat (first | (with_reducible first | exact HB.out | apply below_alloc | apply pw_below_drewN | apply below_drew1) | exact HB.out)) hb); clear HB; have HB := n0_; clear n0_; (try clear hb); (try clear hb2); (try clear hk); (try clear hi)) | ((with_reducible refine gate_callee (f := 8) rfl ?_); refine goesL_ (some 8) rfl rfl Try.func8 (by kernel_rfl) rfl #[.slice A0 l0.length c0] rfl (by (try simp only [List.map_toArray, List.map_cons, List.map_nil]); first | done | rfl | (simp only [List.length_drop, List.length_take]; rfl)) ?_; (with_reducible refine (spec_SizeOfEdits.calls k _ _ l0 t131 _ ?side1 ?side2 A4.out).mono ?_); (case side1 => repeat (first | exact (Kd.C_below HR0.out HB.out) | (with_reducible refine Kd.C_alloc ?_ _) | (with_reducible refine Kd.C_drewN ?_ _) | (with_reducible refine Kd.C_drew ?_))); (case side2 => exact HC0.out); rintro e w46 ⟨rfl, hb⟩; refine ⟨_, rfl, ?_⟩; have n0_ := Aside0.mk (below_step (by repeat (first | (with_reducible first | exact HB.out | apply below_alloc | apply pw_below_drewN | apply below_drew1) | exact HB.out)) hb); clear HB; have HB := n0_; clear n0_; (try clear hb); (try clear hb2); (try clear hk); (try clear hi)) | ((with_reducible refine gate_dst (N := 9) rfl ?_); refine Kd.R_lit (Kd.int .i64) _ 3 ?hg (N := 9) ?hd (xs := ([t131] : List Int)) (inner := [.int .i64 t131]) (ok := fun _ => True) (okp := fun _ => True) ?hr ?hp (fun _ hk => hk) trivial (Below.refl _ _) (Nat.le_refl _) (by simp) ?_; (case hd => rfl); (case hg => rfl); (case hr => first | (go_simp; done) | (go_simp; rfl)); (case hp => exact (Reps.one (show Kd.M (Kd.int .i64) _ _ _ t131 [.int .i64 t131] from rfl) (Reps.none _ _))); intro v133 w47 ho48 hb hg_ hnew_; clear hg_ hnew_; (first | rw [← Ny132.out] at ho48 | (simp only [Int.reduceToNat] at ho48; rw [← Ny132.out] at ho48)); have n0_ := Aside0.mk (Kd.R_lower ho48 (below_size (by repeat (first | (with_reducible first | exact HB.out | apply below_alloc | apply pw_below_drewN | apply below_drew1) | exact HB.out)))); have n1_ := Aside0.mk (below_step (by repeat (first | (with_reducible first | exact HB.out | apply below_alloc | apply pw_below_drewN | apply below_drew1) | exact HB.out)) hb); clear HB; have HO134 := n0_; have HB := n1_; clear n0_ n1_; clear hb ho48; obtain ⟨Ao49, co49, eo49⟩ := Kd.R_slice HO134.out; subst eo49) | ((with_reducible refine gate_callee (f := 7) rfl ?_); refine goesL_ (some 10) rfl rfl Try.func7 (by kernel_rfl) rfl #[.slice Ao49 y132.length co49] rfl (by (try simp only [List.map_toArray, List.map_cons, List.map_nil]); first | done | rfl | (simp only [List.length_drop, List.length_take]; rfl)) ?_; (with_reducible refine (spec_TooLong.calls k _ _ y132 false _ ?side1 ?side2 A5.out).mono ?_); (case side1 => repeat (first | exact (Kd.R_reads' HO134.out).2.2 | (with_reducible refine Kd.C_alloc ?_ _) | (with_reducible refine Kd.C_drewN ?_ _) | (with_reducible refine Kd.C_drew ?_))); (case side2 => exact (Kd.R_reads' HO134.out).2.1); rintro e w' ⟨rfl, ⟨nd, rfl⟩⟩; refine ⟨_, rfl, ?_⟩) | ((with_reducible refine gate_dst (N := 12) rfl ?_); refine Kd.R_lit k28 _ 28 ?hg (N := 12) ?hd (xs := ([(⟨0, 0, (⟨#[120]⟩ : ByteArray)⟩ : S28)] : List (S28))) (inner := [.int .i64 0, .int .i64 0, .string (⟨#[120]⟩ : ByteArray)]) (ok := fun _ => True) (okp := fun _ => True) ?hr ?hp (fun _ hk => hk) trivial (Below.refl _ _) (Nat.le_refl _) (by simp) ?_; (case hd => rfl); (case hg => rfl); (case hr => first | (go_simp; done) | (go_simp; rfl)); (case hp => exact (Reps.c3 (show Kd.M k28 _ _ _ (⟨0, 0, (⟨#[120]⟩ : ByteArray)⟩ : S28) [.int .i64 0, .int .i64 0, .string (⟨#[120]⟩ : ByteArray)] from (k28_mkM _ _ _ (⟨0, 0, (⟨#[120]⟩ : ByteArray)⟩ : S28) )) (Reps.none _ _))); intro v137 w50 ho51 hb hg_ hnew_; clear hg_ hnew_; (first | rw [← Ny136.out] at ho51 | (simp only [Int.reduceToNat] at ho51; rw [← Ny136.out] at ho51)); have n0_ := Aside0.mk (Kd.R_below (by (with_reducible repeat (first | apply Kd.R_alloc | apply Kd.R_drewN | apply Kd.R_drew)); exact HO134.out) hb); have n1_ := Aside0.mk (Kd.R_lower ho51 (below_size (by repeat (first | (with_reducible first | exact HB.out | apply below_alloc | apply pw_below_drewN | apply below_drew1) | exact HB.out)))); have n2_ := Aside0.mk (below_step (by repeat (first | (with_reducible first | exact HB.out | apply below_alloc | apply pw_below_drewN | apply below_drew1) | exact HB.out)) hb); clear HO134; clear HB; have HO134 := n0_; have HO138 := n1_; have HB := n2_; clear n0_ n1_ n2_; clear hb ho51; obtain ⟨Ao52, co52, eo52⟩ := Kd.R_slice HO138.out; subst eo52) | ((with_reducible refine gate_callee (f := 9) rfl ?_); refine goesL_ (some 13) rfl rfl Try.func9 (by kernel_rfl) rfl #[.slice Ao52 y136.length co52] rfl (by (try simp only [List.map_toArray, List.map_cons, List.map_nil]); first | done | rfl | (simp only [List.length_drop, List.length_take]; rfl)) ?_; (with_reducible refine (impl_SortEdits.calls _ _ y136 t139 _ ?side1 ?side2 A12.out).mono ?_); (case side1 => repeat (first | exact (Kd.R_reads' HO138.out).2.2 | (with_reducible refine Kd.C_alloc ?_ _) | (with_reducible refine Kd.C_drewN ?_ _) | (with_reducible refine Kd.C_drew ?_))); (case side2 => exact (Kd.R_reads' HO138.out).2.1); rintro e w53 ⟨v140, rfl, ho0, hb⟩; refine ⟨_, rfl, ?_⟩; have n0_ := Aside0.mk (Kd.R_below (by (with_reducible repeat (first | apply Kd.R_alloc | apply Kd.R_drewN | apply Kd.R_drew)); exact HO134.out) hb); have n1_ := Aside0.mk (Kd.R_elder' (by (with_reducible repeat (first | apply Kd.R_alloc | apply Kd.R_drewN | apply Kd.R_drew)); exact HO138.out) (Kd.R_base ho0) hb); have n2_ := Aside0.mk (Kd.R_lower (Kd.R_new' ho0 (Kd.R_lt (by (with_reducible repeat (first | apply Kd.R_alloc | apply Kd.R_drewN | apply Kd.R_drew)); exact HO138.out))) (below_size (by repeat (first | (with_reducible first | exact HB.out | apply below_alloc | apply pw_below_drewN | apply below_drew1) | exact HB.out)))); have n3_ := Aside0.mk (below_step (by repeat (first | (with_reducible first | exact HB.out | apply below_alloc | apply pw_below_drewN | apply below_drew1) | exact HB.out)) hb); clear HO134; clear HO138; clear HB; have HO134 := n0_; have HO138 := n1_; have HO141 := n2_; have HB := n3_; clear n0_ n1_ n2_ n3_; (try clear hb); (try clear hb2); (try clear hk); (try clear hi); (try clear ho0); obtain ⟨Ao54, co54, eo54⟩ := Kd.R_slice HO141.out; subst eo54))
        go_ret
        exact ⟨by first | rfl | (simp [errW_none, errW_some] <;> rfl) | (simp [*, errW_none, errW_some] <;> rfl), by repeat (first | (with_reducible first | exact HB.out | apply below_alloc | apply pw_below_drewN | apply below_drew1) | exact HB.out)⟩
  · replace c3 := Bool.eq_false_iff.mpr c3
    subst c3
    have H1 : (some true) = some r := by rw [if_neg (show ¬ (false = true) by decide)] at H; exact H
    clear H
    have H := H1
    clear H1
    obtain rfl := Option.some.inj H
    go_enter Try.func3, Try.ntmps3
    go_wp2_with (first | ((with_reducible refine gate_callee (f := 6) rfl ?_); refine goesL_ (some 5) rfl rfl Try.func6 (by kernel_rfl) rfl #[.slice A0 l0.length c0] rfl (by (try simp only [List.map_toArray, List.map_cons, List.map_nil]); first | done | rfl | (simp only [List.length_drop, List.length_take]; rfl)) ?_; (with_reducible refine (laws_zzFits1.calls k _ _ l0 false _ ?side1 ?side2 A2.out).mono ?_); (case side1 => repeat (first | exact HR0.out | (with_reducible refine Kd.C_alloc ?_ _) | (with_reducible refine Kd.C_drewN ?_ _) | (with_reducible refine Kd.C_drew ?_))); (case side2 => exact HC0.out); rintro e w55 ⟨rfl, hb⟩; refine ⟨_, rfl, ?_⟩; have n0_ := Aside0.mk (below_step (by repeat (first | (with_reducible first | exact HB.out | apply below_alloc | apply pw_below_drewN | apply below_drew1) | exact HB.out)) hb); clear HB; have HB := n0_; clear n0_; (try clear hb); (try clear hb2); (try clear hk); (try clear hi)))
    go_ret
    exact ⟨by first | rfl | (simp [errW_none, errW_some] <;> rfl) | (simp [*, errW_none, errW_some] <;> rfl), by repeat (first | (with_reducible first | exact HB.out | apply below_alloc | apply pw_below_drewN | apply below_drew1) | exact HB.out)⟩

end Go.Proofs.Ytonajgipkpnpoaa.QFnSortReference
