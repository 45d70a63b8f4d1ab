-- Written by a program of this session, after the kit's printer.
import Derived.Test.YtonajgipkpnpoaaQFnSortReferencex0
import Derived.Test.YtonajgipkpnpoaaSortV
import Derived.Test.YtonajgipkpnpoaaCopyK
import Derived.StillTailTactics
import Derived.Deep.CutBlock
import Derived.IntWalk
import Derived.Lib.Hide
namespace Go.Proofs.Ytonajgipkpnpoaa.QFnSortReference
open Go.RowKit Go.Proofs.YtonajgipkpnpoaaW.PrintWords Go.Proofs.YtonajgipkpnpoaaW.PrintLast Go.Proofs.YtonajgipkpnpoaaW.PrintMore
attribute [local go_sem] max2_int min2_int max_two min_two max_three min_three max_four min_four   -- for this text's walks alone
set_option linter.unusedVariables false
set_option linter.unusedSimpArgs false

/-! ### laws_zzFits2: function 19 -/
def laws_zzFits2.f (a0_0 : Int) (a0_1 : Int) (a0_2 : ByteArray) : Option (Bool) := if (a0_2.size : Int) > 2147483647 then (some false) else (some true)
set_option maxHeartbeats 8000000 in
set_option maxRecDepth 100000 in
theorem laws_zzFits2.calls (a0_0 : Int) (a0_1 : Int) (a0_2 : ByteArray) (r : Bool) (w : World) (h : laws_zzFits2.f a0_0 a0_1 a0_2 = some r) :
    Calls Try.prog 19 #[.agg #[.int .i64 a0_0, .int .i64 a0_1, .string a0_2]] w fun e w' => e = .returned (.bool r) ∧ Below w.heap.size w w' := by
  have hu28 := Try.underlying28
  have HB := Aside0.mk (Below.refl w.heap.size w)
  have H : (if (a0_2.size : Int) > 2147483647 then (some false) else (some true)) = some r := h
  clear h
  by_cases c2 : (a0_2.size : Int) > 2147483647
  · rw [if_pos c2] at H
    have c2b0 : decide (2147483647 < (a0_2.size : Int)) = true := decide_eq_true c2
    have c2b1 : decide (2147483647 < a0_2.size) = true := decide_eq_true (by omega)
    clear c2
    obtain rfl := Option.some.inj H
    go_enter Try.func19, Try.ntmps19
    go_wp2_with (first | ((with_reducible refine gate_dst (N := 1) rfl ?_); refine box_event ?hg (N := 1) ?hd (cs := #[.int .i64 a0_0, .int .i64 a0_1, .string a0_2]) (t := 28) ?hr ?_; (case hd => rfl); (case hg => rfl); (case hr => first | (go_simp; done) | (go_simp; rfl)); intro gb101 hg w3 hbox hb; have n0_ := Aside0.mk (below_step (by repeat (first | (with_reducible first | exact HB.out | apply below_alloc | apply pw_below_drewN | apply below_drew1) | exact HB.out)) hb); have n1_ := Aside0.mk (hbox); have n2_ := Aside0.mk ((by rw [hg]; exact (below_size (by repeat (first | (with_reducible first | exact HB.out | apply below_alloc | apply pw_below_drewN | apply below_drew1) | exact HB.out))) : w.heap.size ≤ gb101)); have n3_ := Aside0.mk ((by rw [hg]; exact (below_size (by repeat (first | (with_reducible first | exact HB.out | apply below_alloc | apply pw_below_drewN | apply below_drew1) | exact HB.out))) : w.heap.size ≤ gb101)); clear HB; have HB := n0_; have BK101 := n1_; have GW101 := n2_; have GE101 := n3_; clear n0_ n1_ n2_ n3_; clear hb hbox hg; have hcz4_0 : w3.cell? ⟨gb101, 0, none⟩ = some (.int .i64 a0_0) := (blk_cell BK101.out 0).trans rfl; have hcz4_1 : w3.cell? ⟨gb101, 1, none⟩ = some (.int .i64 a0_1) := (blk_cell BK101.out 1).trans rfl; have hcz4_2 : w3.cell? ⟨gb101, 2, none⟩ = some (.string a0_2) := (blk_cell BK101.out 2).trans rfl; have hfz4_0 := blk_frozen BK101.out 0; have hfz4_1 := blk_frozen BK101.out 1; have hfz4_2 := blk_frozen BK101.out 2))
    go_ret
    exact ⟨by first | rfl | (simp [errW_none, errW_some] <;> rfl) | (simp [*, errW_none, errW_some] <;> rfl), by repeat (first | (with_reducible first | exact HB.out | apply below_alloc | apply pw_below_drewN | apply below_drew1 | refine below_set ?_ GE101.out) | exact HB.out)⟩
  · rw [if_neg c2] at H
    have c2b0 : decide (2147483647 < (a0_2.size : Int)) = false := decide_eq_false c2
    have c2b1 : decide (2147483647 < a0_2.size) = false := decide_eq_false (by omega)
    clear c2
    obtain rfl := Option.some.inj H
    go_enter Try.func19, Try.ntmps19
    go_wp2_with (first | ((with_reducible refine gate_dst (N := 1) rfl ?_); refine box_event ?hg (N := 1) ?hd (cs := #[.int .i64 a0_0, .int .i64 a0_1, .string a0_2]) (t := 28) ?hr ?_; (case hd => rfl); (case hg => rfl); (case hr => first | (go_simp; done) | (go_simp; rfl)); intro gb101 hg w5 hbox hb; have n0_ := Aside0.mk (below_step (by repeat (first | (with_reducible first | exact HB.out | apply below_alloc | apply pw_below_drewN | apply below_drew1) | exact HB.out)) hb); have n1_ := Aside0.mk (hbox); have n2_ := Aside0.mk ((by rw [hg]; exact (below_size (by repeat (first | (with_reducible first | exact HB.out | apply below_alloc | apply pw_below_drewN | apply below_drew1) | exact HB.out))) : w.heap.size ≤ gb101)); have n3_ := Aside0.mk ((by rw [hg]; exact (below_size (by repeat (first | (with_reducible first | exact HB.out | apply below_alloc | apply pw_below_drewN | apply below_drew1) | exact HB.out))) : w.heap.size ≤ gb101)); clear HB; have HB := n0_; have BK101 := n1_; have GW101 := n2_; have GE101 := n3_; clear n0_ n1_ n2_ n3_; clear hb hbox hg; have hcz6_0 : w5.cell? ⟨gb101, 0, none⟩ = some (.int .i64 a0_0) := (blk_cell BK101.out 0).trans rfl; have hcz6_1 : w5.cell? ⟨gb101, 1, none⟩ = some (.int .i64 a0_1) := (blk_cell BK101.out 1).trans rfl; have hcz6_2 : w5.cell? ⟨gb101, 2, none⟩ = some (.string a0_2) := (blk_cell BK101.out 2).trans rfl; have hfz6_0 := blk_frozen BK101.out 0; have hfz6_1 := blk_frozen BK101.out 1; have hfz6_2 := blk_frozen BK101.out 2))
    go_ret
    exact ⟨by first | rfl | (simp [errW_none, errW_some] <;> rfl) | (simp [*, errW_none, errW_some] <;> rfl), by repeat (first | (with_reducible first | exact HB.out | apply below_alloc | apply pw_below_drewN | apply below_drew1 | refine below_set ?_ GE101.out) | exact HB.out)⟩

/-! ### laws_zzFits1: function 6 -/
def laws_zzFits1.l0 : Nat → List (S28) → Int → Int → Option (Bool)
  | 0, _, _, _ => none
  | k + 1, x8, x9, x10 => if x10 < x9 then (if 0 ≤ x10 then (if x10 < (x8.length : Int) then ((laws_zzFits2.f ((rd_T28 x8 x10).f0) ((rd_T28 x8 x10).f1) ((rd_T28 x8 x10).f2)).bind fun t104 => (if t104 = true then (laws_zzFits1.l0 k x8 x9 (wrap64 (x10 + 1))) else (some false))) else (none)) else (none)) else (some true)
def laws_zzFits1.f (k : Nat) (l0 : List (S28)) : Option (Bool) := if (l0.length : Int) > 2147483647 then (some false) else (laws_zzFits1.l0 k l0 (l0.length : Int) 0)
theorem laws_zzFits1.mono_l : ∀ k, (∀ y0 y1 y2, LeO (laws_zzFits1.l0 k y0 y1 y2) (laws_zzFits1.l0 (k + 1) y0 y1 y2))
  | 0 => fun _ _ _ r h => by simp [laws_zzFits1.l0] at h
  | k + 1 => by
    have ih0 := laws_zzFits1.mono_l k
    · intro y0 y1 y2
      unfold laws_zzFits1.l0
      repeat' first
      | (with_reducible exact ih0 _ _ _)
      | (with_reducible exact LeO.refl _)
      | (with_reducible exact LeO.none _)
      | (with_reducible refine LeO.ite ?_ ?_)
      | (with_reducible refine LeO.bind ?_ (fun _ => ?_))
      | exact ih0 _ _ _
      | exact LeO.none _
      | refine LeO.ite ?_ ?_
      | refine LeO.bind ?_ (fun _ => ?_)
theorem laws_zzFits1.mono : ∀ a0 k, LeO (laws_zzFits1.f k a0) (laws_zzFits1.f (k + 1) a0) := by
  intro a0 k
  have ih0 := laws_zzFits1.mono_l k
  unfold laws_zzFits1.f
  repeat' first
      | (with_reducible exact ih0 _ _ _)
      | (with_reducible exact LeO.refl _)
      | (with_reducible exact LeO.none _)
      | (with_reducible refine LeO.ite ?_ ?_)
      | (with_reducible refine LeO.bind ?_ (fun _ => ?_))
      | exact ih0 _ _ _
      | exact LeO.none _
      | refine LeO.ite ?_ ?_
      | refine LeO.bind ?_ (fun _ => ?_)
set_option maxHeartbeats 8000000 in
set_option maxRecDepth 100000 in
theorem laws_zzFits1.calls (k : Nat) (A0 : Option Addr) (c0 : Nat) (l0 : List (S28)) (r : Bool) (w : World) (hr0 : Kd.C k28 w A0 l0.length l0) (hc0 : l0.length ≤ c0) (h : laws_zzFits1.f k l0 = some r) :
    Calls Try.prog 6 #[.slice A0 l0.length c0] w fun e w' => e = .returned (.bool r) ∧ Below w.heap.size w w' := by
  have hu28 := Try.underlying28
  have HR0 := Aside0.mk hr0
  have HC0 := Aside0.mk hc0
  clear hr0 hc0
  have HB := Aside0.mk (Below.refl w.heap.size w)
  have H : (if (l0.length : Int) > 2147483647 then (some false) else (laws_zzFits1.l0 k l0 (l0.length : Int) 0)) = some r := h
  clear h
  by_cases c2 : (l0.length : Int) > 2147483647
  · rw [if_pos c2] at H
    have c2b0 : decide (2147483647 < (l0.length : Int)) = true := decide_eq_true c2
    have c2b1 : decide (2147483647 < l0.length) = true := decide_eq_true (by omega)
    clear c2
    obtain rfl := Option.some.inj H
    go_enter Try.func6, Try.ntmps6
    go_wp2
    go_ret
    exact ⟨by first | rfl | (simp [errW_none, errW_some] <;> rfl) | (simp [*, errW_none, errW_some] <;> rfl), by repeat (first | (with_reducible first | exact HB.out | apply below_alloc | apply pw_below_drewN | apply below_drew1) | exact HB.out)⟩
  · rw [if_neg c2] at H
    have c2b0 : decide (2147483647 < (l0.length : Int)) = false := decide_eq_false c2
    have c2b1 : decide (2147483647 < l0.length) = false := decide_eq_false (by omega)
    clear c2
    have H' := Aside0.mk H
    clear H
    go_enter Try.func6, Try.ntmps6
    go_wp2
    go_loopg [10] k (fun kq v10 w' => ∃ (x10_1 : Int), v10 = .int .i64 x10_1 ∧ Aside0 (laws_zzFits1.l0 kq l0 (l0.length : Int) x10_1 = some r) ∧ Aside0 (kq ≤ k) ∧ Aside0 (Below w.heap.size w w'))
    case atStart => exact ⟨(0), (by first | rfl | (simp; done) | (simp [*]; done)), H', ⟨Nat.le_refl _⟩, ⟨by repeat (first | (with_reducible first | exact HB.out | apply below_alloc | apply pw_below_drewN | apply below_drew1) | exact HB.out)⟩⟩
    case round =>
      clear H'
      try clear c2
      try clear c2b0
      try clear c2b1
      try clear p2
      obtain ⟨x10_1, rfl, HA, HK1, HB⟩ := hrel
      cases gk with
      | zero => exact absurd HA.out (by simp [laws_zzFits1.l0])
      | succ k1 =>
        have H := HA.out
        clear HA
        simp only [laws_zzFits1.l0] at H
        by_cases c3 : x10_1 < (l0.length : Int)
        · rw [if_pos c3] at H
          have c3b0 : decide (x10_1 < (l0.length : Int)) = true := decide_eq_true c3
          clear c3
          by_cases c4 : 0 ≤ x10_1
          · rw [if_pos c4] at H
            have c4b0 : decide (0 ≤ x10_1) = true := decide_eq_true c4
            clear c4
            by_cases c5 : x10_1 < (l0.length : Int)
            · rw [if_pos c5] at H
              have c5b0 : decide (x10_1 < (l0.length : Int)) = true := decide_eq_true c5
              clear c5
              replace H := Option.bind_eq_some_iff.mp H
              obtain ⟨t104, A60, H⟩ := H
              replace H : (if t104 = true then (laws_zzFits1.l0 k1 l0 (l0.length : Int) (wrap64 (x10_1 + 1))) else (some false)) = some r := H
              have A6 := Aside0.mk A60
              clear A60
              by_cases c7 : t104 = true
              · subst c7
                have H1 : (laws_zzFits1.l0 k1 l0 (l0.length : Int) (wrap64 (x10_1 + 1))) = some r := by rw [if_pos rfl] at H; exact H
                clear H
                have H := H1
                clear H1
                have H' := Aside0.mk H
                clear H
                have p102 : 0 ≤ (x10_1 : Int) := of_decide_eq_true (by first | (with_reducible assumption) | assumption)
                have q102 : x10_1 < (l0.length : Int) := of_decide_eq_true (by first | (with_reducible assumption) | assumption)
                obtain ⟨ad102, e102, hx102_0, hx102_1, hx102_2⟩ := at_T28 HR0.out x10_1 p102 q102
                cases e102
                replace hx102_0 := (HB.out.cell (World.block_lt_of_cell? w _ hx102_0)).trans hx102_0
                replace hx102_1 := (HB.out.cell (World.block_lt_of_cell? w _ hx102_1)).trans hx102_1
                replace hx102_2 := (HB.out.cell (World.block_lt_of_cell? w _ hx102_2)).trans hx102_2
                replace p102 := eq_true p102
                replace q102 := eq_true q102
                go_wp2_with (first | ((with_reducible refine gate_dst (N := 4) rfl ?_); refine box_event ?hg (N := 4) ?hd (cs := #[.int .i64 0, .int .i64 0, .string (⟨#[]⟩ : ByteArray)]) (t := 28) ?hr ?_; (case hd => rfl); (case hg => rfl); (case hr => first | (go_simp; done) | (go_simp; rfl)); intro gb103 hg w8 hbox hb; have n0_ := Aside0.mk (below_step (by repeat (first | (with_reducible first | exact HB.out | apply below_alloc | apply pw_below_drewN | apply below_drew1) | exact HB.out)) hb); have n1_ := Aside0.mk (hbox); have n2_ := Aside0.mk ((by rw [hg]; exact (below_size (by repeat (first | (with_reducible first | exact HB.out | apply below_alloc | apply pw_below_drewN | apply below_drew1) | exact HB.out))) : w.heap.size ≤ gb103)); have n3_ := Aside0.mk ((by rw [hg]; exact (below_size (by repeat (first | (with_reducible first | exact HB.out | apply below_alloc | apply pw_below_drewN | apply below_drew1) | exact HB.out))) : w.heap.size ≤ gb103)); clear HB; have HB := n0_; have BK103 := n1_; have GW103 := n2_; have GE103 := n3_; clear n0_ n1_ n2_ n3_; clear hb hbox hg; have hcz9_0 : w8.cell? ⟨gb103, 0, none⟩ = some (.int .i64 0) := (blk_cell BK103.out 0).trans rfl; have hcz9_1 : w8.cell? ⟨gb103, 1, none⟩ = some (.int .i64 0) := (blk_cell BK103.out 1).trans rfl; have hcz9_2 : w8.cell? ⟨gb103, 2, none⟩ = some (.string (⟨#[]⟩ : ByteArray)) := (blk_cell BK103.out 2).trans rfl; have hfz9_0 := blk_frozen BK103.out 0; have hfz9_1 := blk_frozen BK103.out 1; have hfz9_2 := blk_frozen BK103.out 2) | ((with_reducible refine gate_callee (f := 19) rfl ?_); refine goesL_ (some 15) rfl rfl Try.func19 (by kernel_rfl) rfl #[.agg #[.int .i64 ((rd_T28 l0 x10_1).f0), .int .i64 ((rd_T28 l0 x10_1).f1), .string ((rd_T28 l0 x10_1).f2)]] rfl (by (try simp only [List.map_toArray, List.map_cons, List.map_nil]); first | done | rfl | (simp only [List.length_drop, List.length_take]; rfl)) ?_; (with_reducible refine (laws_zzFits2.calls ((rd_T28 l0 x10_1).f0) ((rd_T28 l0 x10_1).f1) ((rd_T28 l0 x10_1).f2) true _ A6.out).mono ?_); rintro e w10 ⟨rfl, hb⟩; refine ⟨_, rfl, ?_⟩; have n0_ := Aside0.mk (blk_below (g := gb103) (o := .cells #[.int .i64 ((rd_T28 l0 x10_1).f0), .int .i64 ((rd_T28 l0 x10_1).f1), .string ((rd_T28 l0 x10_1).f2)] 28 (0, 0)) (by (with_reducible repeat (first | refine blk_drewN ?_ _ | refine blk_drew ?_ | refine blk_alloc ?_ _)); refine blk_put (cs := #[.int .i64 ((rd_T28 l0 x10_1).f0), .int .i64 ((rd_T28 l0 x10_1).f1), .string (⟨#[]⟩ : ByteArray)]) ?_ 2 _ rfl; (with_reducible repeat (first | refine blk_drewN ?_ _ | refine blk_drew ?_ | refine blk_alloc ?_ _)); refine blk_put (cs := #[.int .i64 ((rd_T28 l0 x10_1).f0), .int .i64 0, .string (⟨#[]⟩ : ByteArray)]) ?_ 1 _ rfl; (with_reducible repeat (first | refine blk_drewN ?_ _ | refine blk_drew ?_ | refine blk_alloc ?_ _)); refine blk_put (cs := #[.int .i64 0, .int .i64 0, .string (⟨#[]⟩ : ByteArray)]) ?_ 0 _ rfl; (with_reducible repeat (first | refine blk_drewN ?_ _ | refine blk_drew ?_ | refine blk_alloc ?_ _)); exact BK103.out) hb); have n1_ := Aside0.mk (below_step (by repeat (first | (with_reducible first | exact HB.out | apply below_alloc | apply pw_below_drewN | apply below_drew1 | refine below_set ?_ GE103.out) | exact HB.out)) hb); clear BK103; clear HB; have BK103 := n0_; have HB := n1_; clear n0_ n1_; (try clear hb); (try clear hb2); (try clear hk); (try clear hi)))
                go_roundg k1
                case measure => have := HK1.out; omega
                case rel => exact ⟨(wrap64 (x10_1 + 1)), (by first | rfl | (simp; done) | (simp [*]; done)), H', ⟨by have := HK1.out; omega⟩, ⟨by repeat (first | (with_reducible first | exact HB.out | apply below_alloc | apply pw_below_drewN | apply below_drew1 | refine below_set ?_ GE103.out) | exact HB.out)⟩⟩
              · replace c7 := Bool.eq_false_iff.mpr c7
                subst c7
                have H1 : (some false) = some r := by rw [if_neg (show ¬ (false = true) by decide)] at H; exact H
                clear H
                have H := H1
                clear H1
                obtain rfl := Option.some.inj H
                have p102 : 0 ≤ (x10_1 : Int) := of_decide_eq_true (by first | (with_reducible assumption) | assumption)
                have q102 : x10_1 < (l0.length : Int) := of_decide_eq_true (by first | (with_reducible assumption) | assumption)
                obtain ⟨ad102, e102, hx102_0, hx102_1, hx102_2⟩ := at_T28 HR0.out x10_1 p102 q102
                cases e102
                replace hx102_0 := (HB.out.cell (World.block_lt_of_cell? w _ hx102_0)).trans hx102_0
                replace hx102_1 := (HB.out.cell (World.block_lt_of_cell? w _ hx102_1)).trans hx102_1
                replace hx102_2 := (HB.out.cell (World.block_lt_of_cell? w _ hx102_2)).trans hx102_2
                replace p102 := eq_true p102
                replace q102 := eq_true q102
                go_wp2_with (first | ((with_reducible refine gate_dst (N := 4) rfl ?_); refine box_event ?hg (N := 4) ?hd (cs := #[.int .i64 0, .int .i64 0, .string (⟨#[]⟩ : ByteArray)]) (t := 28) ?hr ?_; (case hd => rfl); (case hg => rfl); (case hr => first | (go_simp; done) | (go_simp; rfl)); intro gb103 hg w11 hbox hb; have n0_ := Aside0.mk (below_step (by repeat (first | (with_reducible first | exact HB.out | apply below_alloc | apply pw_below_drewN | apply below_drew1) | exact HB.out)) hb); have n1_ := Aside0.mk (hbox); have n2_ := Aside0.mk ((by rw [hg]; exact (below_size (by repeat (first | (with_reducible first | exact HB.out | apply below_alloc | apply pw_below_drewN | apply below_drew1) | exact HB.out))) : w.heap.size ≤ gb103)); have n3_ := Aside0.mk ((by rw [hg]; exact (below_size (by repeat (first | (with_reducible first | exact HB.out | apply below_alloc | apply pw_below_drewN | apply below_drew1) | exact HB.out))) : w.heap.size ≤ gb103)); clear HB; have HB := n0_; have BK103 := n1_; have GW103 := n2_; have GE103 := n3_; clear n0_ n1_ n2_ n3_; clear hb hbox hg; have hcz12_0 : w11.cell? ⟨gb103, 0, none⟩ = some (.int .i64 0) := (blk_cell BK103.out 0).trans rfl; have hcz12_1 : w11.cell? ⟨gb103, 1, none⟩ = some (.int .i64 0) := (blk_cell BK103.out 1).trans rfl; have hcz12_2 : w11.cell? ⟨gb103, 2, none⟩ = some (.string (⟨#[]⟩ : ByteArray)) := (blk_cell BK103.out 2).trans rfl; have hfz12_0 := blk_frozen BK103.out 0; have hfz12_1 := blk_frozen BK103.out 1; have hfz12_2 := blk_frozen BK103.out 2) | ((with_reducible refine gate_callee (f := 19) rfl ?_); refine goesL_ (some 15) rfl rfl Try.func19 (by kernel_rfl) rfl #[.agg #[.int .i64 ((rd_T28 l0 x10_1).f0), .int .i64 ((rd_T28 l0 x10_1).f1), .string ((rd_T28 l0 x10_1).f2)]] rfl (by (try simp only [List.map_toArray, List.map_cons, List.map_nil]); first | done | rfl | (simp only [List.length_drop, List.length_take]; rfl)) ?_; (with_reducible refine (laws_zzFits2.calls ((rd_T28 l0 x10_1).f0) ((rd_T28 l0 x10_1).f1) ((rd_T28 l0 x10_1).f2) false _ A6.out).mono ?_); rintro e w13 ⟨rfl, hb⟩; refine ⟨_, rfl, ?_⟩; have n0_ := Aside0.mk (blk_below (g := gb103) (o := .cells #[.int .i64 ((rd_T28 l0 x10_1).f0), .int .i64 ((rd_T28 l0 x10_1).f1), .string ((rd_T28 l0 x10_1).f2)] 28 (0, 0)) (by (with_reducible repeat (first | refine blk_drewN ?_ _ | refine blk_drew ?_ | refine blk_alloc ?_ _)); refine blk_put (cs := #[.int .i64 ((rd_T28 l0 x10_1).f0), .int .i64 ((rd_T28 l0 x10_1).f1), .string (⟨#[]⟩ : ByteArray)]) ?_ 2 _ rfl; (with_reducible repeat (first | refine blk_drewN ?_ _ | refine blk_drew ?_ | refine blk_alloc ?_ _)); refine blk_put (cs := #[.int .i64 ((rd_T28 l0 x10_1).f0), .int .i64 0, .string (⟨#[]⟩ : ByteArray)]) ?_ 1 _ rfl; (with_reducible repeat (first | refine blk_drewN ?_ _ | refine blk_drew ?_ | refine blk_alloc ?_ _)); refine blk_put (cs := #[.int .i64 0, .int .i64 0, .string (⟨#[]⟩ : ByteArray)]) ?_ 0 _ rfl; (with_reducible repeat (first | refine blk_drewN ?_ _ | refine blk_drew ?_ | refine blk_alloc ?_ _)); exact BK103.out) hb); have n1_ := Aside0.mk (below_step (by repeat (first | (with_reducible first | exact HB.out | apply below_alloc | apply pw_below_drewN | apply below_drew1 | refine below_set ?_ GE103.out) | exact HB.out)) hb); clear BK103; clear HB; have BK103 := n0_; have HB := n1_; clear n0_ n1_; (try clear hb); (try clear hb2); (try clear hk); (try clear hi)))
                go_ret
                exact ⟨by first | rfl | (simp [errW_none, errW_some] <;> rfl) | (simp [*, errW_none, errW_some] <;> rfl), by repeat (first | (with_reducible first | exact HB.out | apply below_alloc | apply pw_below_drewN | apply below_drew1 | refine below_set ?_ GE103.out) | exact HB.out)⟩
            · rw [if_neg c5] at H
              exact absurd H (by simp)
          · rw [if_neg c4] at H
            exact absurd H (by simp)
        · rw [if_neg c3] at H
          have c3b0 : decide (x10_1 < (l0.length : Int)) = false := decide_eq_false c3
          clear c3
          obtain rfl := Option.some.inj H
          go_wp2
          go_ret
          exact ⟨by first | rfl | (simp [errW_none, errW_some] <;> rfl) | (simp [*, errW_none, errW_some] <;> rfl), by repeat (first | (with_reducible first | exact HB.out | apply below_alloc | apply pw_below_drewN | apply below_drew1) | exact HB.out)⟩

/-! ### spec_TooLong: function 7 -/
def spec_TooLong.l0 : Nat → Int → List Int → Int → Int → Option (Bool)
  | 0, _, _, _, _ => none
  | k + 1, x3, x6, x7, x8 => if x8 < x7 then (if 0 ≤ x8 then (if x8 < (x6.length : Int) then (if (rd x6 x8) > (wrap64 (1000000 - x3)) then (some true) else (spec_TooLong.l0 k (wrap64 (x3 + (rd x6 x8))) x6 x7 (wrap64 (x8 + 1)))) else (none)) else (none)) else (some false)
def spec_TooLong.f (k : Nat) (l0 : List Int) : Option (Bool) := spec_TooLong.l0 k 0 l0 (l0.length : Int) 0
theorem spec_TooLong.mono_l : ∀ k, (∀ y0 y1 y2 y3, LeO (spec_TooLong.l0 k y0 y1 y2 y3) (spec_TooLong.l0 (k + 1) y0 y1 y2 y3))
  | 0 => fun _ _ _ _ r h => by simp [spec_TooLong.l0] at h
  | k + 1 => by
    have ih0 := spec_TooLong.mono_l k
    · intro y0 y1 y2 y3
      unfold spec_TooLong.l0
      repeat' first
      | (with_reducible exact ih0 _ _ _ _)
      | (with_reducible exact LeO.refl _)
      | (with_reducible exact LeO.none _)
      | (with_reducible refine LeO.ite ?_ ?_)
      | (with_reducible refine LeO.bind ?_ (fun _ => ?_))
      | exact ih0 _ _ _ _
      | exact LeO.none _
      | refine LeO.ite ?_ ?_
      | refine LeO.bind ?_ (fun _ => ?_)
theorem spec_TooLong.mono : ∀ a0 k, LeO (spec_TooLong.f k a0) (spec_TooLong.f (k + 1) a0) := by
  intro a0 k
  have ih0 := spec_TooLong.mono_l k
  unfold spec_TooLong.f
  repeat' first
      | (with_reducible exact ih0 _ _ _ _)
      | (with_reducible exact LeO.refl _)
      | (with_reducible exact LeO.none _)
      | (with_reducible refine LeO.ite ?_ ?_)
      | (with_reducible refine LeO.bind ?_ (fun _ => ?_))
      | exact ih0 _ _ _ _
      | exact LeO.none _
      | refine LeO.ite ?_ ?_
      | refine LeO.bind ?_ (fun _ => ?_)
set_option maxHeartbeats 8000000 in
set_option maxRecDepth 100000 in
theorem spec_TooLong.calls (k : Nat) (A0 : Option Addr) (c0 : Nat) (l0 : List Int) (r : Bool) (w : World) (hr0 : Kd.C (Kd.int .i64) w A0 l0.length l0) (hc0 : l0.length ≤ c0) (h : spec_TooLong.f k l0 = some r) :
    Calls Try.prog 7 #[.slice A0 l0.length c0] w fun e w' => e = .returned (.bool r) ∧ Drawn0 w w' := by
  have HR0 := Aside0.mk hr0
  have HC0 := Aside0.mk hc0
  clear hr0 hc0
  have H : (spec_TooLong.l0 k 0 l0 (l0.length : Int) 0) = some r := h
  clear h
  have H' := Aside0.mk H
  clear H
  go_enter Try.func7, Try.ntmps7
  go_wp2
  go_loopg [3, 8] k (fun kq v3 v8 w' => ∃ (x3_1 : Int) (x8_1 : Int), v3 = .int .i64 x3_1 ∧ v8 = .int .i64 x8_1 ∧ Aside0 (spec_TooLong.l0 kq x3_1 l0 (l0.length : Int) x8_1 = some r) ∧ Aside0 (kq ≤ k) ∧ Drawn0 w w')
  case atStart => exact ⟨(0), (0), (by first | rfl | (simp; done) | (simp [*]; done)), (by first | rfl | (simp; done) | (simp [*]; done)), H', ⟨Nat.le_refl _⟩, by repeat (first | exact Drawn0.refl _ | apply Drawn0.step)⟩
  case round =>
    clear H'
    obtain ⟨x3_1, x8_1, rfl, rfl, HA, HK1, ⟨m1, rfl⟩⟩ := hrel
    cases gk with
    | zero => exact absurd HA.out (by simp [spec_TooLong.l0])
    | succ k1 =>
      have H := HA.out
      clear HA
      simp only [spec_TooLong.l0] at H
      by_cases c2 : x8_1 < (l0.length : Int)
      · rw [if_pos c2] at H
        have c2b0 : decide (x8_1 < (l0.length : Int)) = true := decide_eq_true c2
        clear c2
        by_cases c3 : 0 ≤ x8_1
        · rw [if_pos c3] at H
          have c3b0 : decide (0 ≤ x8_1) = true := decide_eq_true c3
          clear c3
          by_cases c4 : x8_1 < (l0.length : Int)
          · rw [if_pos c4] at H
            have c4b0 : decide (x8_1 < (l0.length : Int)) = true := decide_eq_true c4
            clear c4
            by_cases c5 : (rd l0 x8_1) > (wrap64 (1000000 - x3_1))
            · rw [if_pos c5] at H
              have c5b0 : decide ((wrap64 (1000000 - x3_1)) < (rd l0 x8_1)) = true := decide_eq_true c5
              clear c5
              obtain rfl := Option.some.inj H
              have p105 : 0 ≤ (x8_1 : Int) := of_decide_eq_true (by first | (with_reducible assumption) | assumption)
              have q105 : x8_1 < (l0.length : Int) := of_decide_eq_true (by first | (with_reducible assumption) | assumption)
              obtain ⟨ad105, e105, hx105_0⟩ := Kd.at_int HR0.out x8_1 p105 q105
              cases e105
              replace p105 := eq_true p105
              replace q105 := eq_true q105
              go_wp2
              go_ret
              exact ⟨by first | rfl | (simp; done) | (simp [*]; done), by repeat (first | exact Drawn0.refl _ | apply Drawn0.step)⟩
            · rw [if_neg c5] at H
              have c5b0 : decide ((wrap64 (1000000 - x3_1)) < (rd l0 x8_1)) = false := decide_eq_false c5
              clear c5
              have H' := Aside0.mk H
              clear H
              have p105 : 0 ≤ (x8_1 : Int) := of_decide_eq_true (by first | (with_reducible assumption) | assumption)
              have q105 : x8_1 < (l0.length : Int) := of_decide_eq_true (by first | (with_reducible assumption) | assumption)
              obtain ⟨ad105, e105, hx105_0⟩ := Kd.at_int HR0.out x8_1 p105 q105
              cases e105
              replace p105 := eq_true p105
              replace q105 := eq_true q105
              go_wp2
              go_roundg k1
              case measure => have := HK1.out; omega
              case rel => exact ⟨(wrap64 (x3_1 + (rd l0 x8_1))), (wrap64 (x8_1 + 1)), (by first | rfl | (simp; done) | (simp [*]; done)), (by first | rfl | (simp; done) | (simp [*]; done)), H', ⟨by have := HK1.out; omega⟩, by repeat (first | exact Drawn0.refl _ | apply Drawn0.step)⟩
          · rw [if_neg c4] at H
            exact absurd H (by simp)
        · rw [if_neg c3] at H
          exact absurd H (by simp)
      · rw [if_neg c2] at H
        have c2b0 : decide (x8_1 < (l0.length : Int)) = false := decide_eq_false c2
        clear c2
        obtain rfl := Option.some.inj H
        go_wp2
        go_ret
        exact ⟨by first | rfl | (simp; done) | (simp [*]; done), by repeat (first | exact Drawn0.refl _ | apply Drawn0.step)⟩

/-! ### spec_SizeOfEdits: function 8 -/
def spec_SizeOfEdits.l0 : Nat → Int → List (S28) → Int → Int → Option (Int)
  | 0, _, _, _, _ => none
  | k + 1, x3, x6, x7, x8 => if x8 < x7 then (if 0 ≤ x8 then (if x8 < (x6.length : Int) then (if (((rd_T28 x6 x8).f2).size : Int) ≥ (wrap64 (1000000 - x3)) then (some 1000001) else (spec_SizeOfEdits.l0 k (wrap64 (x3 + (wrap64 ((((rd_T28 x6 x8).f2).size : Int) + 1)))) x6 x7 (wrap64 (x8 + 1)))) else (none)) else (none)) else (some x3)
def spec_SizeOfEdits.f (k : Nat) (l0 : List (S28)) : Option (Int) := spec_SizeOfEdits.l0 k 0 l0 (l0.length : Int) 0
theorem spec_SizeOfEdits.mono_l : ∀ k, (∀ y0 y1 y2 y3, LeO (spec_SizeOfEdits.l0 k y0 y1 y2 y3) (spec_SizeOfEdits.l0 (k + 1) y0 y1 y2 y3))
  | 0 => fun _ _ _ _ r h => by simp [spec_SizeOfEdits.l0] at h
  | k + 1 => by
    have ih0 := spec_SizeOfEdits.mono_l k
    · intro y0 y1 y2 y3
      unfold spec_SizeOfEdits.l0
      repeat' first
      | (with_reducible exact ih0 _ _ _ _)
      | (with_reducible exact LeO.refl _)
      | (with_reducible exact LeO.none _)
      | (with_reducible refine LeO.ite ?_ ?_)
      | (with_reducible refine LeO.bind ?_ (fun _ => ?_))
      | exact ih0 _ _ _ _
      | exact LeO.none _
      | refine LeO.ite ?_ ?_
      | refine LeO.bind ?_ (fun _ => ?_)
theorem spec_SizeOfEdits.mono : ∀ a0 k, LeO (spec_SizeOfEdits.f k a0) (spec_SizeOfEdits.f (k + 1) a0) := by
  intro a0 k
  have ih0 := spec_SizeOfEdits.mono_l k
  unfold spec_SizeOfEdits.f
  repeat' first
      | (with_reducible exact ih0 _ _ _ _)
      | (with_reducible exact LeO.refl _)
      | (with_reducible exact LeO.none _)
      | (with_reducible refine LeO.ite ?_ ?_)
      | (with_reducible refine LeO.bind ?_ (fun _ => ?_))
      | exact ih0 _ _ _ _
      | exact LeO.none _
      | refine LeO.ite ?_ ?_
      | refine LeO.bind ?_ (fun _ => ?_)
set_option maxHeartbeats 8000000 in
set_option maxRecDepth 100000 in
theorem spec_SizeOfEdits.calls (k : Nat) (A0 : Option Addr) (c0 : Nat) (l0 : List (S28)) (r : Int) (w : World) (hr0 : Kd.C k28 w A0 l0.length l0) (hc0 : l0.length ≤ c0) (h : spec_SizeOfEdits.f k l0 = some r) :
    Calls Try.prog 8 #[.slice A0 l0.length c0] w fun e w' => e = .returned (.int .i64 r) ∧ Below w.heap.size w w' := by
  have hu28 := Try.underlying28
  have HR0 := Aside0.mk hr0
  have HC0 := Aside0.mk hc0
  clear hr0 hc0
  have HB := Aside0.mk (Below.refl w.heap.size w)
  have H : (spec_SizeOfEdits.l0 k 0 l0 (l0.length : Int) 0) = some r := h
  clear h
  have H' := Aside0.mk H
  clear H
  go_enter Try.func8, Try.ntmps8
  go_wp2
  go_loopg [3, 8] k (fun kq v3 v8 w' => ∃ (x3_1 : Int) (x8_1 : Int), v3 = .int .i64 x3_1 ∧ v8 = .int .i64 x8_1 ∧ Aside0 (spec_SizeOfEdits.l0 kq x3_1 l0 (l0.length : Int) x8_1 = some r) ∧ Aside0 (kq ≤ k) ∧ Aside0 (Below w.heap.size w w'))
  case atStart => exact ⟨(0), (0), (by first | rfl | (simp; done) | (simp [*]; done)), (by first | rfl | (simp; done) | (simp [*]; done)), H', ⟨Nat.le_refl _⟩, ⟨by repeat (first | (with_reducible first | exact HB.out | apply below_alloc | apply pw_below_drewN | apply below_drew1) | exact HB.out)⟩⟩
  case round =>
    clear H'
    obtain ⟨x3_1, x8_1, rfl, rfl, HA, HK1, HB⟩ := hrel
    cases gk with
    | zero => exact absurd HA.out (by simp [spec_SizeOfEdits.l0])
    | succ k1 =>
      have H := HA.out
      clear HA
      simp only [spec_SizeOfEdits.l0] at H
      by_cases c2 : x8_1 < (l0.length : Int)
      · rw [if_pos c2] at H
        have c2b0 : decide (x8_1 < (l0.length : Int)) = true := decide_eq_true c2
        clear c2
        by_cases c3 : 0 ≤ x8_1
        · rw [if_pos c3] at H
          have c3b0 : decide (0 ≤ x8_1) = true := decide_eq_true c3
          clear c3
          by_cases c4 : x8_1 < (l0.length : Int)
          · rw [if_pos c4] at H
            have c4b0 : decide (x8_1 < (l0.length : Int)) = true := decide_eq_true c4
            clear c4
            by_cases c5 : (((rd_T28 l0 x8_1).f2).size : Int) ≥ (wrap64 (1000000 - x3_1))
            · rw [if_pos c5] at H
              have c5b0 : decide ((wrap64 (1000000 - x3_1)) ≤ (((rd_T28 l0 x8_1).f2).size : Int)) = true := decide_eq_true c5
              clear c5
              obtain rfl := Option.some.inj H
              have p106 : 0 ≤ (x8_1 : Int) := of_decide_eq_true (by first | (with_reducible assumption) | assumption)
              have q106 : x8_1 < (l0.length : Int) := of_decide_eq_true (by first | (with_reducible assumption) | assumption)
              obtain ⟨ad106, e106, hx106_0, hx106_1, hx106_2⟩ := at_T28 HR0.out x8_1 p106 q106
              cases e106
              replace hx106_0 := (HB.out.cell (World.block_lt_of_cell? w _ hx106_0)).trans hx106_0
              replace hx106_1 := (HB.out.cell (World.block_lt_of_cell? w _ hx106_1)).trans hx106_1
              replace hx106_2 := (HB.out.cell (World.block_lt_of_cell? w _ hx106_2)).trans hx106_2
              replace p106 := eq_true p106
              replace q106 := eq_true q106
              go_wp2_with (first | ((with_reducible refine gate_dst (N := 5) rfl ?_); refine box_event ?hg (N := 5) ?hd (cs := #[.int .i64 0, .int .i64 0, .string (⟨#[]⟩ : ByteArray)]) (t := 28) ?hr ?_; (case hd => rfl); (case hg => rfl); (case hr => first | (go_simp; done) | (go_simp; rfl)); intro gb107 hg w6 hbox hb; have n0_ := Aside0.mk (below_step (by repeat (first | (with_reducible first | exact HB.out | apply below_alloc | apply pw_below_drewN | apply below_drew1) | exact HB.out)) hb); have n1_ := Aside0.mk (hbox); have n2_ := Aside0.mk ((by rw [hg]; exact (below_size (by repeat (first | (with_reducible first | exact HB.out | apply below_alloc | apply pw_below_drewN | apply below_drew1) | exact HB.out))) : w.heap.size ≤ gb107)); have n3_ := Aside0.mk ((by rw [hg]; exact (below_size (by repeat (first | (with_reducible first | exact HB.out | apply below_alloc | apply pw_below_drewN | apply below_drew1) | exact HB.out))) : w.heap.size ≤ gb107)); clear HB; have HB := n0_; have BK107 := n1_; have GW107 := n2_; have GE107 := n3_; clear n0_ n1_ n2_ n3_; clear hb hbox hg; have hcz7_0 : w6.cell? ⟨gb107, 0, none⟩ = some (.int .i64 0) := (blk_cell BK107.out 0).trans rfl; have hcz7_1 : w6.cell? ⟨gb107, 1, none⟩ = some (.int .i64 0) := (blk_cell BK107.out 1).trans rfl; have hcz7_2 : w6.cell? ⟨gb107, 2, none⟩ = some (.string (⟨#[]⟩ : ByteArray)) := (blk_cell BK107.out 2).trans rfl; have hfz7_0 := blk_frozen BK107.out 0; have hfz7_1 := blk_frozen BK107.out 1; have hfz7_2 := blk_frozen BK107.out 2))
              go_ret
              exact ⟨by first | rfl | (simp [errW_none, errW_some] <;> rfl) | (simp [*, errW_none, errW_some] <;> rfl), by repeat (first | (with_reducible first | exact HB.out | apply below_alloc | apply pw_below_drewN | apply below_drew1 | refine below_set ?_ GE107.out) | exact HB.out)⟩
            · rw [if_neg c5] at H
              have c5b0 : decide ((wrap64 (1000000 - x3_1)) ≤ (((rd_T28 l0 x8_1).f2).size : Int)) = false := decide_eq_false c5
              clear c5
              have H' := Aside0.mk H
              clear H
              have p106 : 0 ≤ (x8_1 : Int) := of_decide_eq_true (by first | (with_reducible assumption) | assumption)
              have q106 : x8_1 < (l0.length : Int) := of_decide_eq_true (by first | (with_reducible assumption) | assumption)
              obtain ⟨ad106, e106, hx106_0, hx106_1, hx106_2⟩ := at_T28 HR0.out x8_1 p106 q106
              cases e106
              replace hx106_0 := (HB.out.cell (World.block_lt_of_cell? w _ hx106_0)).trans hx106_0
              replace hx106_1 := (HB.out.cell (World.block_lt_of_cell? w _ hx106_1)).trans hx106_1
              replace hx106_2 := (HB.out.cell (World.block_lt_of_cell? w _ hx106_2)).trans hx106_2
              replace p106 := eq_true p106
              replace q106 := eq_true q106
              go_wp2_with (first | ((with_reducible refine gate_dst (N := 5) rfl ?_); refine box_event ?hg (N := 5) ?hd (cs := #[.int .i64 0, .int .i64 0, .string (⟨#[]⟩ : ByteArray)]) (t := 28) ?hr ?_; (case hd => rfl); (case hg => rfl); (case hr => first | (go_simp; done) | (go_simp; rfl)); intro gb107 hg w8 hbox hb; have n0_ := Aside0.mk (below_step (by repeat (first | (with_reducible first | exact HB.out | apply below_alloc | apply pw_below_drewN | apply below_drew1) | exact HB.out)) hb); have n1_ := Aside0.mk (hbox); have n2_ := Aside0.mk ((by rw [hg]; exact (below_size (by repeat (first | (with_reducible first | exact HB.out | apply below_alloc | apply pw_below_drewN | apply below_drew1) | exact HB.out))) : w.heap.size ≤ gb107)); have n3_ := Aside0.mk ((by rw [hg]; exact (below_size (by repeat (first | (with_reducible first | exact HB.out | apply below_alloc | apply pw_below_drewN | apply below_drew1) | exact HB.out))) : w.heap.size ≤ gb107)); clear HB; have HB := n0_; have BK107 := n1_; have GW107 := n2_; have GE107 := n3_; clear n0_ n1_ n2_ n3_; clear hb hbox hg; have hcz9_0 : w8.cell? ⟨gb107, 0, none⟩ = some (.int .i64 0) := (blk_cell BK107.out 0).trans rfl; have hcz9_1 : w8.cell? ⟨gb107, 1, none⟩ = some (.int .i64 0) := (blk_cell BK107.out 1).trans rfl; have hcz9_2 : w8.cell? ⟨gb107, 2, none⟩ = some (.string (⟨#[]⟩ : ByteArray)) := (blk_cell BK107.out 2).trans rfl; have hfz9_0 := blk_frozen BK107.out 0; have hfz9_1 := blk_frozen BK107.out 1; have hfz9_2 := blk_frozen BK107.out 2))
              go_roundg k1
              case measure => have := HK1.out; omega
              case rel => exact ⟨(wrap64 (x3_1 + (wrap64 ((((rd_T28 l0 x8_1).f2).size : Int) + 1)))), (wrap64 (x8_1 + 1)), (by first | rfl | (simp; done) | (simp [*]; done)), (by first | rfl | (simp; done) | (simp [*]; done)), H', ⟨by have := HK1.out; omega⟩, ⟨by repeat (first | (with_reducible first | exact HB.out | apply below_alloc | apply pw_below_drewN | apply below_drew1 | refine below_set ?_ GE107.out) | exact HB.out)⟩⟩
          · rw [if_neg c4] at H
            exact absurd H (by simp)
        · rw [if_neg c3] at H
          exact absurd H (by simp)
      · rw [if_neg c2] at H
        have c2b0 : decide (x8_1 < (l0.length : Int)) = false := decide_eq_false c2
        clear c2
        obtain rfl := Option.some.inj H
        go_wp2
        go_ret
        exact ⟨by first | rfl | (simp [errW_none, errW_some] <;> rfl) | (simp [*, errW_none, errW_some] <;> rfl), by repeat (first | (with_reducible first | exact HB.out | apply below_alloc | apply pw_below_drewN | apply below_drew1) | exact HB.out)⟩

/-! ### impl_given: function 20 -/
def impl_given.l0 : Nat → List (S59) → List (S28) → Int → Int → Option ((List (S59)))
  | 0, _, _, _, _ => none
  | k + 1, x3, x7, x8, x9 => if x9 < x8 then (if 0 ≤ x9 then (if x9 < (x7.length : Int) then (if x3.length < 4398046511104 then (impl_given.l0 k (x3 ++ [(⟨(rd_T28 x7 x9).f0, (rd_T28 x7 x9).f1, (rd_T28 x7 x9).f2⟩ : S59)]) x7 x8 (wrap64 (x9 + 1))) else (none)) else (none)) else (none)) else (some x3)
def impl_given.f (k : Nat) (l0 : List (S28)) : Option ((List (S59))) := impl_given.l0 k (([] : List (S59))) l0 (l0.length : Int) 0
theorem impl_given.mono_l : ∀ k, (∀ y0 y1 y2 y3, LeO (impl_given.l0 k y0 y1 y2 y3) (impl_given.l0 (k + 1) y0 y1 y2 y3))
  | 0 => fun _ _ _ _ r h => by simp [impl_given.l0] at h
  | k + 1 => by
    have ih0 := impl_given.mono_l k
    · intro y0 y1 y2 y3
      unfold impl_given.l0
      repeat' first
      | (with_reducible exact ih0 _ _ _ _)
      | (with_reducible exact LeO.refl _)
      | (with_reducible exact LeO.none _)
      | (with_reducible refine LeO.ite ?_ ?_)
      | (with_reducible refine LeO.bind ?_ (fun _ => ?_))
      | exact ih0 _ _ _ _
      | exact LeO.none _
      | refine LeO.ite ?_ ?_
      | refine LeO.bind ?_ (fun _ => ?_)
theorem impl_given.mono : ∀ a0 k, LeO (impl_given.f k a0) (impl_given.f (k + 1) a0) := by
  intro a0 k
  have ih0 := impl_given.mono_l k
  unfold impl_given.f
  repeat' first
      | (with_reducible exact ih0 _ _ _ _)
      | (with_reducible exact LeO.refl _)
      | (with_reducible exact LeO.none _)
      | (with_reducible refine LeO.ite ?_ ?_)
      | (with_reducible refine LeO.bind ?_ (fun _ => ?_))
      | exact ih0 _ _ _ _
      | exact LeO.none _
      | refine LeO.ite ?_ ?_
      | refine LeO.bind ?_ (fun _ => ?_)
set_option maxHeartbeats 8000000 in
set_option maxRecDepth 100000 in
theorem impl_given.calls (k : Nat) (A0 : Option Addr) (c0 : Nat) (l0 : List (S28)) (r : List (S59)) (w : World) (hr0 : Kd.C k28 w A0 l0.length l0) (hc0 : l0.length ≤ c0) (h : impl_given.f k l0 = some r) :
    Calls Try.prog 20 #[.slice A0 l0.length c0] w fun e w' => ∃ v0_ : Value, e = .returned (v0_) ∧ Kd.R k59 59 w' w.heap.size (fun _ => True) v0_ r ∧ Below w.heap.size w w' := by
  have hu28 := Try.underlying28
  have hu59 := Try.underlying59
  have HR0 := Aside0.mk hr0
  have HC0 := Aside0.mk hc0
  clear hr0 hc0
  have HB := Aside0.mk (Below.refl w.heap.size w)
  have H : (impl_given.l0 k (([] : List (S59))) l0 (l0.length : Int) 0) = some r := h
  clear h
  obtain ⟨y108, hy108⟩ : ∃ y_ : List (S59), y_ = (([] : List (S59))) := ⟨_, rfl⟩
  replace H : (impl_given.l0 k y108 l0 (l0.length : Int) 0) = some r := by first | (rw [hy108]; with_reducible exact H) | (have H2_ := (Option.bind_some _ _).symm.trans H; rw [hy108]; with_reducible exact H2_) | (have H2_ := (Option.bind_some _ _).symm.trans H; with_reducible exact H2_) | with_reducible exact H | (rw [hy108]; exact H) | exact H
  have Ny108 := Aside0.mk hy108
  clear hy108
  have H' := Aside0.mk H
  clear H
  go_enter Try.func20, Try.ntmps20
  go_wp2_with (first | ((with_reducible refine gate_dst (N := 6) rfl ?_); refine Kd.R_lit k59 _ 59 ?hg (N := 6) ?hd (xs := ([] : List (S59))) (inner := []) (ok := fun _ => True) (okp := fun _ => True) ?hr ?hp (fun _ hk => hk) trivial (Below.refl _ _) (Nat.le_refl _) (by simp) ?_; (case hd => rfl); (case hg => rfl); (case hr => first | (go_simp; done) | (go_simp; rfl)); (case hp => exact (Reps.none _ _)); intro v109 w2 ho3 hb hg_ hnew_; clear hg_ hnew_; (first | rw [← Ny108.out] at ho3 | (simp only [Int.reduceToNat] at ho3; rw [← Ny108.out] at ho3)); have n0_ := Aside0.mk (Kd.R_lower ho3 (below_size (by repeat (first | (with_reducible first | exact HB.out | apply below_alloc | apply pw_below_drewN | apply below_drew1) | exact HB.out)))); have n1_ := Aside0.mk (below_step (by repeat (first | (with_reducible first | exact HB.out | apply below_alloc | apply pw_below_drewN | apply below_drew1) | exact HB.out)) hb); clear HB; have HO110 := n0_; have HB := n1_; clear n0_ n1_; clear hb ho3))
  go_loopg [3, 9] k (fun kq v3 v9 w' => ∃ (x3_1 : List (S59)) (x9_1 : Int), v9 = .int .i64 x9_1 ∧ Aside0 (impl_given.l0 kq x3_1 l0 (l0.length : Int) x9_1 = some r) ∧ Aside0 (kq ≤ k) ∧ Aside0 (Kd.R k59 59 w' w.heap.size (fun _ => True) v3 x3_1) ∧ Aside0 (Below w.heap.size w w'))
  case atStart => exact ⟨(y108), (0), (by first | rfl | (simp; done) | (simp [*]; done)), H', ⟨Nat.le_refl _⟩, ⟨by (with_reducible repeat (first | apply Kd.R_alloc | apply Kd.R_drewN | apply Kd.R_drew)); exact HO110.out⟩, ⟨by repeat (first | (with_reducible first | exact HB.out | apply below_alloc | apply pw_below_drewN | apply below_drew1) | exact HB.out)⟩⟩
  case round =>
    clear H'
    try clear c2
    try clear p2
    obtain ⟨x3_1, x9_1, rfl, HA, HK1, HO_3, HB⟩ := hrel
    cases gk with
    | zero => exact absurd HA.out (by simp [impl_given.l0])
    | succ k1 =>
      have H := HA.out
      clear HA
      simp only [impl_given.l0] at H
      by_cases c4 : x9_1 < (l0.length : Int)
      · rw [if_pos c4] at H
        have c4b0 : decide (x9_1 < (l0.length : Int)) = true := decide_eq_true c4
        clear c4
        by_cases c5 : 0 ≤ x9_1
        · rw [if_pos c5] at H
          have c5b0 : decide (0 ≤ x9_1) = true := decide_eq_true c5
          clear c5
          by_cases c6 : x9_1 < (l0.length : Int)
          · rw [if_pos c6] at H
            have c6b0 : decide (x9_1 < (l0.length : Int)) = true := decide_eq_true c6
            clear c6
            by_cases c7 : x3_1.length < 4398046511104
            · rw [if_pos c7] at H
              have LMc7 := Aside0.mk c7
              clear c7
              obtain ⟨y113, hy113⟩ : ∃ y_ : List (S59), y_ = (x3_1 ++ [(⟨(rd_T28 l0 x9_1).f0, (rd_T28 l0 x9_1).f1, (rd_T28 l0 x9_1).f2⟩ : S59)]) := ⟨_, rfl⟩
              replace H : (impl_given.l0 k1 y113 l0 (l0.length : Int) (wrap64 (x9_1 + 1))) = some r := by first | (rw [hy113]; with_reducible exact H) | (have H2_ := (Option.bind_some _ _).symm.trans H; rw [hy113]; with_reducible exact H2_) | (have H2_ := (Option.bind_some _ _).symm.trans H; with_reducible exact H2_) | with_reducible exact H | (rw [hy113]; exact H) | exact H
              have Ny113 := Aside0.mk hy113
              clear hy113
              have H' := Aside0.mk H
              clear H
              have p111 : 0 ≤ (x9_1 : Int) := of_decide_eq_true (by first | (with_reducible assumption) | assumption)
              have q111 : x9_1 < (l0.length : Int) := of_decide_eq_true (by first | (with_reducible assumption) | assumption)
              obtain ⟨ad111, e111, hx111_0, hx111_1, hx111_2⟩ := at_T28 HR0.out x9_1 p111 q111
              cases e111
              replace hx111_0 := (HB.out.cell (World.block_lt_of_cell? w _ hx111_0)).trans hx111_0
              replace hx111_1 := (HB.out.cell (World.block_lt_of_cell? w _ hx111_1)).trans hx111_1
              replace hx111_2 := (HB.out.cell (World.block_lt_of_cell? w _ hx111_2)).trans hx111_2
              replace p111 := eq_true p111
              replace q111 := eq_true q111
              go_wp2_with (first | ((with_reducible refine gate_dst (N := 5) rfl ?_); refine box_event ?hg (N := 5) ?hd (cs := #[.int .i64 0, .int .i64 0, .string (⟨#[]⟩ : ByteArray)]) (t := 28) ?hr ?_; (case hd => rfl); (case hg => rfl); (case hr => first | (go_simp; done) | (go_simp; rfl)); intro gb112 hg w8 hbox hb; have n0_ := Aside0.mk (Kd.R_below (by (with_reducible repeat (first | apply Kd.R_alloc | apply Kd.R_drewN | apply Kd.R_drew)); exact HO_3.out) hb); have n1_ := Aside0.mk (below_step (by repeat (first | (with_reducible first | exact HB.out | apply below_alloc | apply pw_below_drewN | apply below_drew1) | exact HB.out)) hb); have n2_ := Aside0.mk (hbox); have n3_ := Aside0.mk ((by rw [hg]; exact (below_size (by repeat (first | (with_reducible first | exact HB.out | apply below_alloc | apply pw_below_drewN | apply below_drew1) | exact HB.out))) : w.heap.size ≤ gb112)); have n4_ := Aside0.mk ((by rw [hg]; exact (below_size (by repeat (first | (with_reducible first | exact HB.out | apply below_alloc | apply pw_below_drewN | apply below_drew1) | exact HB.out))) : w.heap.size ≤ gb112)); clear HO_3; clear HB; have HO_3 := n0_; have HB := n1_; have BK112 := n2_; have GW112 := n3_; have GE112 := n4_; clear n0_ n1_ n2_ n3_ n4_; clear hb hbox hg; have hcz9_0 : w8.cell? ⟨gb112, 0, none⟩ = some (.int .i64 0) := (blk_cell BK112.out 0).trans rfl; have hcz9_1 : w8.cell? ⟨gb112, 1, none⟩ = some (.int .i64 0) := (blk_cell BK112.out 1).trans rfl; have hcz9_2 : w8.cell? ⟨gb112, 2, none⟩ = some (.string (⟨#[]⟩ : ByteArray)) := (blk_cell BK112.out 2).trans rfl; have hfz9_0 := blk_frozen BK112.out 0; have hfz9_1 := blk_frozen BK112.out 1; have hfz9_2 := blk_frozen BK112.out 2) | ((with_reducible refine gate_builtin (b := .append) (xs := #[.tmp 13, .tmp 21]) rfl ?_); at_builtin; refine Kd.R_append k59 (w0 := w) w.heap.size rfl (.tmp 13) (.tmp 21) 44 59 (.agg #[(.int .i64 0), (.int .i64 0), (.string ⟨#[]⟩)]) 32 rfl Try.underlying44 info59 rfl (by decide) (by omega) u3 x3_1 (⟨(rd_T28 l0 x9_1).f0, (rd_T28 l0 x9_1).f1, (rd_T28 l0 x9_1).f2⟩ : S59) [.int .i64 ((rd_T28 l0 x9_1).f0), .int .i64 ((rd_T28 l0 x9_1).f1), .string ((rd_T28 l0 x9_1).f2)] (fun _ => True) (fun _ => False) rfl (by first | (go_simp; done) | (go_simp; rfl)) ?aP (fun _ hk => hk.elim) ?aF ?aO ?aB ?aS ?aL ?_; (case aP => exact k59_mkM _ _ _ (⟨(rd_T28 l0 x9_1).f0, (rd_T28 l0 x9_1).f1, (rd_T28 l0 x9_1).f2⟩ : S59)); (case aB => exact (by repeat (first | (with_reducible first | exact HB.out | apply below_alloc | apply pw_below_drewN | apply below_drew1 | refine below_set ?_ GE112.out) | exact HB.out))); (case aF => exact (fun _ _ => trivial)); (case aO => exact (by (with_reducible repeat (first | apply Kd.R_alloc | apply Kd.R_drewN | apply Kd.R_drew)); exact Kd.R_mono (Kd.R_far (p := ⟨gb112, 2, none⟩) (Kd.R_far (p := ⟨gb112, 1, none⟩) (Kd.R_far (p := ⟨gb112, 0, none⟩) (Kd.R_types HO_3.out BK112.out (by decide)) (fun _ hk => hk.2) (.int .i64 ((rd_T28 l0 x9_1).f0))) (fun _ hk => hk.2) (.int .i64 ((rd_T28 l0 x9_1).f1))) (fun _ hk => hk.2) (.string ((rd_T28 l0 x9_1).f2))) (fun _ hk => trivial))); (case aS => exact (below_size (by repeat (first | (with_reducible first | exact HB.out | apply below_alloc | apply pw_below_drewN | apply below_drew1 | refine below_set ?_ GE112.out) | exact HB.out)))); (case aL => have := LMc7.out; omega); intro v114 w10 ho hb hg hat; rw [← Ny113.out] at ho; have n0_ := Aside0.mk (blk_grown (g := gb112) (o := .cells #[.int .i64 ((rd_T28 l0 x9_1).f0), .int .i64 ((rd_T28 l0 x9_1).f1), .string ((rd_T28 l0 x9_1).f2)] 28 (0, 0)) (by (with_reducible repeat (first | refine blk_drewN ?_ _ | refine blk_drew ?_ | refine blk_alloc ?_ _)); refine blk_put (cs := #[.int .i64 ((rd_T28 l0 x9_1).f0), .int .i64 ((rd_T28 l0 x9_1).f1), .string (⟨#[]⟩ : ByteArray)]) ?_ 2 _ rfl; (with_reducible repeat (first | refine blk_drewN ?_ _ | refine blk_drew ?_ | refine blk_alloc ?_ _)); refine blk_put (cs := #[.int .i64 ((rd_T28 l0 x9_1).f0), .int .i64 0, .string (⟨#[]⟩ : ByteArray)]) ?_ 1 _ rfl; (with_reducible repeat (first | refine blk_drewN ?_ _ | refine blk_drew ?_ | refine blk_alloc ?_ _)); refine blk_put (cs := #[.int .i64 0, .int .i64 0, .string (⟨#[]⟩ : ByteArray)]) ?_ 0 _ rfl; (with_reducible repeat (first | refine blk_drewN ?_ _ | refine blk_drew ?_ | refine blk_alloc ?_ _)); exact BK112.out) hg (Kd.R_ne HO_3.out BK112.out (by decide))); have n1_ := Aside0.mk (hb); have n2_ := Aside0.mk (ho); clear BK112; clear HB; clear HO_3; have BK112 := n0_; have HB := n1_; have HO115 := n2_; clear n0_ n1_ n2_; clear ho hb hg hat))
              go_roundg k1
              case measure => have := HK1.out; omega
              case rel => exact ⟨(y113), (wrap64 (x9_1 + 1)), (by first | rfl | (simp; done) | (simp [*]; done)), H', ⟨by have := HK1.out; omega⟩, ⟨by (with_reducible repeat (first | apply Kd.R_alloc | apply Kd.R_drewN | apply Kd.R_drew)); exact HO115.out⟩, ⟨by repeat (first | (with_reducible first | exact HB.out | apply below_alloc | apply pw_below_drewN | apply below_drew1 | refine below_set ?_ GE112.out) | exact HB.out)⟩⟩
            · rw [if_neg c7] at H
              exact absurd H (by simp)
          · rw [if_neg c6] at H
            exact absurd H (by simp)
        · rw [if_neg c5] at H
          exact absurd H (by simp)
      · rw [if_neg c4] at H
        have c4b0 : decide (x9_1 < (l0.length : Int)) = false := decide_eq_false c4
        clear c4
        obtain rfl := Option.some.inj H
        go_wp2
        go_ret
        exact ⟨_, by first | rfl | (simp [errW_none, errW_some] <;> rfl) | (simp [*, errW_none, errW_some] <;> rfl), by (with_reducible repeat (first | apply Kd.R_alloc | apply Kd.R_drewN | apply Kd.R_drew)); exact HO_3.out, by repeat (first | (with_reducible first | exact HB.out | apply below_alloc | apply pw_below_drewN | apply below_drew1) | exact HB.out)⟩

-- NOT PRINTED: function 37 (sort_insertionSort)

-- NOT PRINTED: function 47 (sort_swapRange)

-- NOT PRINTED: function 45 (sort_rotate)

-- NOT PRINTED: function 38 (sort_symMerge)

-- NOT PRINTED: function 30 (sort_stable)

-- NOT PRINTED: function 27 (sort_Stable)

-- NOT PRINTED: function 21 (xdiff_SortEdits)

/-! ### impl_told: function 22 -/
def impl_told.l0 : Nat → List (S28) → List (S59) → Int → Int → Option ((List (S28)))
  | 0, _, _, _, _ => none
  | k + 1, x3, x7, x8, x9 => if x9 < x8 then (if 0 ≤ x9 then (if x9 < (x7.length : Int) then (if x3.length < 4398046511104 then (impl_told.l0 k (x3 ++ [(⟨(rd_T59 x7 x9).f0, (rd_T59 x7 x9).f1, (rd_T59 x7 x9).f2⟩ : S28)]) x7 x8 (wrap64 (x9 + 1))) else (none)) else (none)) else (none)) else (some x3)
def impl_told.f (k : Nat) (l0 : List (S59)) : Option ((List (S28))) := impl_told.l0 k (([] : List (S28))) l0 (l0.length : Int) 0
theorem impl_told.mono_l : ∀ k, (∀ y0 y1 y2 y3, LeO (impl_told.l0 k y0 y1 y2 y3) (impl_told.l0 (k + 1) y0 y1 y2 y3))
  | 0 => fun _ _ _ _ r h => by simp [impl_told.l0] at h
  | k + 1 => by
    have ih0 := impl_told.mono_l k
    · intro y0 y1 y2 y3
      unfold impl_told.l0
      repeat' first
      | (with_reducible exact ih0 _ _ _ _)
      | (with_reducible exact LeO.refl _)
      | (with_reducible exact LeO.none _)
      | (with_reducible refine LeO.ite ?_ ?_)
      | (with_reducible refine LeO.bind ?_ (fun _ => ?_))
      | exact ih0 _ _ _ _
      | exact LeO.none _
      | refine LeO.ite ?_ ?_
      | refine LeO.bind ?_ (fun _ => ?_)
theorem impl_told.mono : ∀ a0 k, LeO (impl_told.f k a0) (impl_told.f (k + 1) a0) := by
  intro a0 k
  have ih0 := impl_told.mono_l k
  unfold impl_told.f
  repeat' first
      | (with_reducible exact ih0 _ _ _ _)
      | (with_reducible exact LeO.refl _)
      | (with_reducible exact LeO.none _)
      | (with_reducible refine LeO.ite ?_ ?_)
      | (with_reducible refine LeO.bind ?_ (fun _ => ?_))
      | exact ih0 _ _ _ _
      | exact LeO.none _
      | refine LeO.ite ?_ ?_
      | refine LeO.bind ?_ (fun _ => ?_)
set_option maxHeartbeats 8000000 in
set_option maxRecDepth 100000 in
theorem impl_told.calls (k : Nat) (A0 : Option Addr) (c0 : Nat) (l0 : List (S59)) (r : List (S28)) (w : World) (hr0 : Kd.C k59 w A0 l0.length l0) (hc0 : l0.length ≤ c0) (h : impl_told.f k l0 = some r) :
    Calls Try.prog 22 #[.slice A0 l0.length c0] w fun e w' => ∃ v0_ : Value, e = .returned (v0_) ∧ Kd.R k28 28 w' w.heap.size (fun _ => True) v0_ r ∧ Below w.heap.size w w' := by
  have hu59 := Try.underlying59
  have hu28 := Try.underlying28
  have HR0 := Aside0.mk hr0
  have HC0 := Aside0.mk hc0
  clear hr0 hc0
  have HB := Aside0.mk (Below.refl w.heap.size w)
  have H : (impl_told.l0 k (([] : List (S28))) l0 (l0.length : Int) 0) = some r := h
  clear h
  obtain ⟨y116, hy116⟩ : ∃ y_ : List (S28), y_ = (([] : List (S28))) := ⟨_, rfl⟩
  replace H : (impl_told.l0 k y116 l0 (l0.length : Int) 0) = some r := by first | (rw [hy116]; with_reducible exact H) | (have H2_ := (Option.bind_some _ _).symm.trans H; rw [hy116]; with_reducible exact H2_) | (have H2_ := (Option.bind_some _ _).symm.trans H; with_reducible exact H2_) | with_reducible exact H | (rw [hy116]; exact H) | exact H
  have Ny116 := Aside0.mk hy116
  clear hy116
  have H' := Aside0.mk H
  clear H
  go_enter Try.func22, Try.ntmps22
  go_wp2_with (first | ((with_reducible refine gate_dst (N := 6) rfl ?_); refine Kd.R_lit k28 _ 28 ?hg (N := 6) ?hd (xs := ([] : List (S28))) (inner := []) (ok := fun _ => True) (okp := fun _ => True) ?hr ?hp (fun _ hk => hk) trivial (Below.refl _ _) (Nat.le_refl _) (by simp) ?_; (case hd => rfl); (case hg => rfl); (case hr => first | (go_simp; done) | (go_simp; rfl)); (case hp => exact (Reps.none _ _)); intro v117 w2 ho3 hb hg_ hnew_; clear hg_ hnew_; (first | rw [← Ny116.out] at ho3 | (simp only [Int.reduceToNat] at ho3; rw [← Ny116.out] at ho3)); have n0_ := Aside0.mk (Kd.R_lower ho3 (below_size (by repeat (first | (with_reducible first | exact HB.out | apply below_alloc | apply pw_below_drewN | apply below_drew1) | exact HB.out)))); have n1_ := Aside0.mk (below_step (by repeat (first | (with_reducible first | exact HB.out | apply below_alloc | apply pw_below_drewN | apply below_drew1) | exact HB.out)) hb); clear HB; have HO118 := n0_; have HB := n1_; clear n0_ n1_; clear hb ho3))
  go_loopg [3, 9] k (fun kq v3 v9 w' => ∃ (x3_1 : List (S28)) (x9_1 : Int), v9 = .int .i64 x9_1 ∧ Aside0 (impl_told.l0 kq x3_1 l0 (l0.length : Int) x9_1 = some r) ∧ Aside0 (kq ≤ k) ∧ Aside0 (Kd.R k28 28 w' w.heap.size (fun _ => True) v3 x3_1) ∧ Aside0 (Below w.heap.size w w'))
  case atStart => exact ⟨(y116), (0), (by first | rfl | (simp; done) | (simp [*]; done)), H', ⟨Nat.le_refl _⟩, ⟨by (with_reducible repeat (first | apply Kd.R_alloc | apply Kd.R_drewN | apply Kd.R_drew)); exact HO118.out⟩, ⟨by repeat (first | (with_reducible first | exact HB.out | apply below_alloc | apply pw_below_drewN | apply below_drew1) | exact HB.out)⟩⟩
  case round =>
    clear H'
    try clear c2
    try clear p2
    obtain ⟨x3_1, x9_1, rfl, HA, HK1, HO_3, HB⟩ := hrel
    cases gk with
    | zero => exact absurd HA.out (by simp [impl_told.l0])
    | succ k1 =>
      have H := HA.out
      clear HA
      simp only [impl_told.l0] at H
      by_cases c4 : x9_1 < (l0.length : Int)
      · rw [if_pos c4] at H
        have c4b0 : decide (x9_1 < (l0.length : Int)) = true := decide_eq_true c4
        clear c4
        by_cases c5 : 0 ≤ x9_1
        · rw [if_pos c5] at H
          have c5b0 : decide (0 ≤ x9_1) = true := decide_eq_true c5
          clear c5
          by_cases c6 : x9_1 < (l0.length : Int)
          · rw [if_pos c6] at H
            have c6b0 : decide (x9_1 < (l0.length : Int)) = true := decide_eq_true c6
            clear c6
            by_cases c7 : x3_1.length < 4398046511104
            · rw [if_pos c7] at H
              have LMc7 := Aside0.mk c7
              clear c7
              obtain ⟨y121, hy121⟩ : ∃ y_ : List (S28), y_ = (x3_1 ++ [(⟨(rd_T59 l0 x9_1).f0, (rd_T59 l0 x9_1).f1, (rd_T59 l0 x9_1).f2⟩ : S28)]) := ⟨_, rfl⟩
              replace H : (impl_told.l0 k1 y121 l0 (l0.length : Int) (wrap64 (x9_1 + 1))) = some r := by first | (rw [hy121]; with_reducible exact H) | (have H2_ := (Option.bind_some _ _).symm.trans H; rw [hy121]; with_reducible exact H2_) | (have H2_ := (Option.bind_some _ _).symm.trans H; with_reducible exact H2_) | with_reducible exact H | (rw [hy121]; exact H) | exact H
              have Ny121 := Aside0.mk hy121
              clear hy121
              have H' := Aside0.mk H
              clear H
              have p119 : 0 ≤ (x9_1 : Int) := of_decide_eq_true (by first | (with_reducible assumption) | assumption)
              have q119 : x9_1 < (l0.length : Int) := of_decide_eq_true (by first | (with_reducible assumption) | assumption)
              obtain ⟨ad119, e119, hx119_0, hx119_1, hx119_2⟩ := at_T59 HR0.out x9_1 p119 q119
              cases e119
              replace hx119_0 := (HB.out.cell (World.block_lt_of_cell? w _ hx119_0)).trans hx119_0
              replace hx119_1 := (HB.out.cell (World.block_lt_of_cell? w _ hx119_1)).trans hx119_1
              replace hx119_2 := (HB.out.cell (World.block_lt_of_cell? w _ hx119_2)).trans hx119_2
              replace p119 := eq_true p119
              replace q119 := eq_true q119
              go_wp2_with (first | ((with_reducible refine gate_dst (N := 5) rfl ?_); refine box_event ?hg (N := 5) ?hd (cs := #[.int .i64 0, .int .i64 0, .string (⟨#[]⟩ : ByteArray)]) (t := 59) ?hr ?_; (case hd => rfl); (case hg => rfl); (case hr => first | (go_simp; done) | (go_simp; rfl)); intro gb120 hg w8 hbox hb; have n0_ := Aside0.mk (Kd.R_below (by (with_reducible repeat (first | apply Kd.R_alloc | apply Kd.R_drewN | apply Kd.R_drew)); exact HO_3.out) hb); have n1_ := Aside0.mk (below_step (by repeat (first | (with_reducible first | exact HB.out | apply below_alloc | apply pw_below_drewN | apply below_drew1) | exact HB.out)) hb); have n2_ := Aside0.mk (hbox); have n3_ := Aside0.mk ((by rw [hg]; exact (below_size (by repeat (first | (with_reducible first | exact HB.out | apply below_alloc | apply pw_below_drewN | apply below_drew1) | exact HB.out))) : w.heap.size ≤ gb120)); have n4_ := Aside0.mk ((by rw [hg]; exact (below_size (by repeat (first | (with_reducible first | exact HB.out | apply below_alloc | apply pw_below_drewN | apply below_drew1) | exact HB.out))) : w.heap.size ≤ gb120)); clear HO_3; clear HB; have HO_3 := n0_; have HB := n1_; have BK120 := n2_; have GW120 := n3_; have GE120 := n4_; clear n0_ n1_ n2_ n3_ n4_; clear hb hbox hg; have hcz9_0 : w8.cell? ⟨gb120, 0, none⟩ = some (.int .i64 0) := (blk_cell BK120.out 0).trans rfl; have hcz9_1 : w8.cell? ⟨gb120, 1, none⟩ = some (.int .i64 0) := (blk_cell BK120.out 1).trans rfl; have hcz9_2 : w8.cell? ⟨gb120, 2, none⟩ = some (.string (⟨#[]⟩ : ByteArray)) := (blk_cell BK120.out 2).trans rfl; have hfz9_0 := blk_frozen BK120.out 0; have hfz9_1 := blk_frozen BK120.out 1; have hfz9_2 := blk_frozen BK120.out 2) | ((with_reducible refine gate_builtin (b := .append) (xs := #[.tmp 13, .tmp 21]) rfl ?_); at_builtin; refine Kd.R_append k28 (w0 := w) w.heap.size rfl (.tmp 13) (.tmp 21) 22 28 (.agg #[(.int .i64 0), (.int .i64 0), (.string ⟨#[]⟩)]) 32 rfl Try.underlying22 info28 rfl (by decide) (by omega) u3 x3_1 (⟨(rd_T59 l0 x9_1).f0, (rd_T59 l0 x9_1).f1, (rd_T59 l0 x9_1).f2⟩ : S28) [.int .i64 ((rd_T59 l0 x9_1).f0), .int .i64 ((rd_T59 l0 x9_1).f1), .string ((rd_T59 l0 x9_1).f2)] (fun _ => True) (fun _ => False) rfl (by first | (go_simp; done) | (go_simp; rfl)) ?aP (fun _ hk => hk.elim) ?aF ?aO ?aB ?aS ?aL ?_; (case aP => exact k28_mkM _ _ _ (⟨(rd_T59 l0 x9_1).f0, (rd_T59 l0 x9_1).f1, (rd_T59 l0 x9_1).f2⟩ : S28)); (case aB => exact (by repeat (first | (with_reducible first | exact HB.out | apply below_alloc | apply pw_below_drewN | apply below_drew1 | refine below_set ?_ GE120.out) | exact HB.out))); (case aF => exact (fun _ _ => trivial)); (case aO => exact (by (with_reducible repeat (first | apply Kd.R_alloc | apply Kd.R_drewN | apply Kd.R_drew)); exact Kd.R_mono (Kd.R_far (p := ⟨gb120, 2, none⟩) (Kd.R_far (p := ⟨gb120, 1, none⟩) (Kd.R_far (p := ⟨gb120, 0, none⟩) (Kd.R_types HO_3.out BK120.out (by decide)) (fun _ hk => hk.2) (.int .i64 ((rd_T59 l0 x9_1).f0))) (fun _ hk => hk.2) (.int .i64 ((rd_T59 l0 x9_1).f1))) (fun _ hk => hk.2) (.string ((rd_T59 l0 x9_1).f2))) (fun _ hk => trivial))); (case aS => exact (below_size (by repeat (first | (with_reducible first | exact HB.out | apply below_alloc | apply pw_below_drewN | apply below_drew1 | refine below_set ?_ GE120.out) | exact HB.out)))); (case aL => have := LMc7.out; omega); intro v122 w10 ho hb hg hat; rw [← Ny121.out] at ho; have n0_ := Aside0.mk (blk_grown (g := gb120) (o := .cells #[.int .i64 ((rd_T59 l0 x9_1).f0), .int .i64 ((rd_T59 l0 x9_1).f1), .string ((rd_T59 l0 x9_1).f2)] 59 (0, 0)) (by (with_reducible repeat (first | refine blk_drewN ?_ _ | refine blk_drew ?_ | refine blk_alloc ?_ _)); refine blk_put (cs := #[.int .i64 ((rd_T59 l0 x9_1).f0), .int .i64 ((rd_T59 l0 x9_1).f1), .string (⟨#[]⟩ : ByteArray)]) ?_ 2 _ rfl; (with_reducible repeat (first | refine blk_drewN ?_ _ | refine blk_drew ?_ | refine blk_alloc ?_ _)); refine blk_put (cs := #[.int .i64 ((rd_T59 l0 x9_1).f0), .int .i64 0, .string (⟨#[]⟩ : ByteArray)]) ?_ 1 _ rfl; (with_reducible repeat (first | refine blk_drewN ?_ _ | refine blk_drew ?_ | refine blk_alloc ?_ _)); refine blk_put (cs := #[.int .i64 0, .int .i64 0, .string (⟨#[]⟩ : ByteArray)]) ?_ 0 _ rfl; (with_reducible repeat (first | refine blk_drewN ?_ _ | refine blk_drew ?_ | refine blk_alloc ?_ _)); exact BK120.out) hg (Kd.R_ne HO_3.out BK120.out (by decide))); have n1_ := Aside0.mk (hb); have n2_ := Aside0.mk (ho); clear BK120; clear HB; clear HO_3; have BK120 := n0_; have HB := n1_; have HO123 := n2_; clear n0_ n1_ n2_; clear ho hb hg hat))
              go_roundg k1
              case measure => have := HK1.out; omega
              case rel => exact ⟨(y121), (wrap64 (x9_1 + 1)), (by first | rfl | (simp; done) | (simp [*]; done)), H', ⟨by have := HK1.out; omega⟩, ⟨by (with_reducible repeat (first | apply Kd.R_alloc | apply Kd.R_drewN | apply Kd.R_drew)); exact HO123.out⟩, ⟨by repeat (first | (with_reducible first | exact HB.out | apply below_alloc | apply pw_below_drewN | apply below_drew1 | refine below_set ?_ GE120.out) | exact HB.out)⟩⟩
            · rw [if_neg c7] at H
              exact absurd H (by simp)
          · rw [if_neg c6] at H
            exact absurd H (by simp)
        · rw [if_neg c5] at H
          exact absurd H (by simp)
      · rw [if_neg c4] at H
        have c4b0 : decide (x9_1 < (l0.length : Int)) = false := decide_eq_false c4
        clear c4
        obtain rfl := Option.some.inj H
        go_wp2
        go_ret
        exact ⟨_, by first | rfl | (simp [errW_none, errW_some] <;> rfl) | (simp [*, errW_none, errW_some] <;> rfl), by (with_reducible repeat (first | apply Kd.R_alloc | apply Kd.R_drewN | apply Kd.R_drew)); exact HO_3.out, by repeat (first | (with_reducible first | exact HB.out | apply below_alloc | apply pw_below_drewN | apply below_drew1) | exact HB.out)⟩

/-! ### impl_SortEdits -/
def toE (x : S28) : SortM.E := ⟨x.f0, x.f1, x.f2⟩
def ofE (x : SortM.E) : S28 := ⟨x.a, x.b, x.s⟩
theorem ofE_toE (x : S28) : ofE (toE x) = x := rfl
theorem toE_ofE (x : SortM.E) : toE (ofE x) = x := rfl

theorem insE_length (l : List SortM.E) (e : SortM.E) : (SortU.insE l e).length = l.length + 1 := by
  unfold SortU.insE
  have := SortU.insAt_le l e l.length
  simp; omega

theorem sortE_length (l : List SortM.E) : (SortU.sortE l).length = l.length := by
  have : ∀ (l acc : List SortM.E), (l.foldl SortU.insE acc).length = acc.length + l.length := by
    intro l
    induction l with
    | nil => intro acc; simp
    | cons e l ih => intro acc; rw [List.foldl_cons, ih, insE_length]; simp; omega
  simpa [SortU.sortE] using this l []


def nearL (l : List S28) : Bool := l.all fun x => decide (-1099511627776 ≤ x.f0) && decide (x.f0 ≤ 1099511627776)
def impl_SortEdits.f (l0 : List S28) : Option (List S28) := if l0.length < 4398046511104 then (if nearL l0 = true then some ((SortU.sortE (l0.map toE)).map ofE) else none) else none

def to59 (x : S28) : S59 := ⟨x.f0, x.f1, x.f2⟩
def of59 (x : S59) : S28 := ⟨x.f0, x.f1, x.f2⟩
def e59 (x : S59) : SortM.E := ⟨x.f0, x.f1, x.f2⟩
def s59 (x : SortM.E) : S59 := ⟨x.a, x.b, x.s⟩

theorem wrap_up {i : Int} (h0 : 0 ≤ i) (h : i < 4398046511104) : wrap64 (i + 1) = i + 1 := by unfold wrap64; omega

theorem given_loop (l : List S28) (hl : l.length < 4398046511104) : ∀ (d i k : Nat) (acc : List S59), l.length - i = d → i ≤ l.length → d < k → acc.length = i → impl_given.l0 k acc l (l.length : Int) (i : Int) = some (acc ++ (l.drop i).map to59)
  | 0, i, k, acc, hd, hi, hk, ha => by
    obtain ⟨k, rfl⟩ : ∃ m, k = m + 1 := ⟨k - 1, by omega⟩
    simp only [impl_given.l0]
    rw [if_neg (by omega), List.drop_eq_nil_of_le (by omega)]
    simp
  | d + 1, i, k, acc, hd, hi, hk, ha => by
    obtain ⟨k, rfl⟩ : ∃ m, k = m + 1 := ⟨k - 1, by omega⟩
    simp only [impl_given.l0]
    rw [if_pos (by omega), if_pos (by omega), if_pos (by omega), if_pos (by omega), wrap_up (by omega) (by omega)]
    have := given_loop l hl d (i + 1) k (acc ++ [⟨(rd_T28 l (i : Int)).f0, (rd_T28 l (i : Int)).f1, (rd_T28 l (i : Int)).f2⟩]) (by omega) (by omega) (by omega) (by simp; omega)
    rw [show ((i + 1 : Nat) : Int) = (i : Int) + 1 by omega] at this
    have e : (⟨(rd_T28 l (i : Int)).f0, (rd_T28 l (i : Int)).f1, (rd_T28 l (i : Int)).f2⟩ : S59) = to59 (l[i]'(by omega)) := by
      simp [rd_T28, to59, List.getD, List.getElem?_eq_getElem (show i < l.length by omega)]
    rw [this, e, List.drop_eq_getElem_cons (show i < l.length by omega), List.map_cons, List.append_assoc]
    rfl

theorem given_is (l : List S28) (hl : l.length < 4398046511104) : impl_given.f (l.length + 1) l = some (l.map to59) := by
  have := given_loop l hl l.length 0 (l.length + 1) [] (by omega) (by omega) (by omega) rfl
  simpa [impl_given.f] using this

theorem told_loop (l : List S59) (hl : l.length < 4398046511104) : ∀ (d i k : Nat) (acc : List S28), l.length - i = d → i ≤ l.length → d < k → acc.length = i → impl_told.l0 k acc l (l.length : Int) (i : Int) = some (acc ++ (l.drop i).map of59)
  | 0, i, k, acc, hd, hi, hk, ha => by
    obtain ⟨k, rfl⟩ : ∃ m, k = m + 1 := ⟨k - 1, by omega⟩
    simp only [impl_told.l0]
    rw [if_neg (by omega), List.drop_eq_nil_of_le (by omega)]
    simp
  | d + 1, i, k, acc, hd, hi, hk, ha => by
    obtain ⟨k, rfl⟩ : ∃ m, k = m + 1 := ⟨k - 1, by omega⟩
    simp only [impl_told.l0]
    rw [if_pos (by omega), if_pos (by omega), if_pos (by omega), if_pos (by omega), wrap_up (by omega) (by omega)]
    have := told_loop l hl d (i + 1) k (acc ++ [⟨(rd_T59 l (i : Int)).f0, (rd_T59 l (i : Int)).f1, (rd_T59 l (i : Int)).f2⟩]) (by omega) (by omega) (by omega) (by simp; omega)
    rw [show ((i + 1 : Nat) : Int) = (i : Int) + 1 by omega] at this
    have e : (⟨(rd_T59 l (i : Int)).f0, (rd_T59 l (i : Int)).f1, (rd_T59 l (i : Int)).f2⟩ : S28) = of59 (l[i]'(by omega)) := by
      simp [rd_T59, of59, List.getD, List.getElem?_eq_getElem (show i < l.length by omega)]
    rw [this, e, List.drop_eq_getElem_cons (show i < l.length by omega), List.map_cons, List.append_assoc]
    rfl

theorem told_is (l : List S59) (hl : l.length < 4398046511104) : impl_told.f (l.length + 1) l = some (l.map of59) := by
  have := told_loop l hl l.length 0 (l.length + 1) [] (by omega) (by omega) (by omega) rfl
  simpa [impl_told.f] using this

open Go.Sort in
/-- A row of one's own, as the sort's words have it. -/
theorem open59 {w : World} {base : Nat} {v : Value} {xs : List S59} (h : Kd.R k59 59 w base (fun _ => True) v xs) (hne : 0 < xs.length) :
    ∃ g cap, v = .slice (some ⟨g, 0, none⟩) xs.length cap ∧ base ≤ g ∧ xs.length ≤ cap ∧ HoldsK SortM.enc 3 w g 0 (xs.map e59).toArray := by
  obtain ⟨inner, hown, hreps⟩ := h.2
  rcases hown.2 with ⟨_, hz⟩ | ⟨g, cap, cur, hv, hgb, hheap, hncap, hcapm, hcsz, htake⟩
  · omega
  · refine ⟨g, cap, hv, hgb, hncap, ?_⟩
    have hin : inner = SortU.flat (xs.map e59) := by
      refine SortU.flat_of _ inner (by have := hreps.1; rw [show k59.sz = 3 from rfl] at this; simpa using this) fun j p hj => ?_
      rw [List.getElem?_map] at hj
      cases hx : xs[j]? with
      | none => rw [hx] at hj; cases hj
      | some q =>
        rw [hx] at hj
        obtain rfl := Option.some.inj hj
        exact k59_openM (hreps.2 j q hx)
    subst hin
    intro t ht
    have ht2 : t < xs.length * 3 := by simpa using ht
    refine ⟨?_, blk_frozen hheap _⟩
    rw [blk_cell hheap, get_flatK _ _ _ _ (by simpa using ht)]
    have e : cur[0 + t]? = (SortU.flat (xs.map e59))[t]? := by
      rw [Nat.zero_add, ← Array.getElem?_toList, ← htake, List.getElem?_take, if_pos (by rw [show k59.sz = 3 from rfl]; exact ht2)]
    rw [e]
    have hd : t / 3 < xs.length := by omega
    have hg := SortU.flat_get (xs.map e59) (t / 3) (e59 (xs[t / 3]'hd)) (by simp [hd])
    have h1 : (SortU.flat (xs.map e59))[t]? = (SortM.enc (e59 (xs[t / 3]'hd)))[t % 3]? := by
      rw [← hg, List.getElem?_take, if_pos (by omega), List.getElem?_drop, show t / 3 * 3 + t % 3 = t by omega]
    rw [h1]
    have h2 : (xs.map e59).toArray[t / 3]! = e59 (xs[t / 3]'hd) := by simp [hd]
    rw [h2, List.getElem!_eq_getElem?_getD, List.getElem?_eq_getElem (by rw [SortU.enc_len]; omega)]
    rfl

open Go.Sort in
theorem shut59 {w : World} {g : Nat} {d : Array SortM.E} (h : HoldsK SortM.enc 3 w g 0 d) (hm : d.size ≤ 9223372036854775807) : Kd.C k59 w (some ⟨g, 0, none⟩) d.size (d.toList.map s59) := by
  refine ⟨by simp, hm, fun _ => ⟨_, rfl, fun j p hj => ?_⟩⟩
  rw [List.getElem?_map] at hj
  cases hx : d.toList[j]? with
  | none => rw [hx] at hj; cases hj
  | some q =>
    rw [hx] at hj
    obtain rfl := Option.some.inj hj
    have hjd : j < d.size := by have := (List.getElem?_eq_some_iff.1 hx).1; simpa using this
    have hq : d[j]! = q := by
      rw [getElem!_pos d j hjd]
      have := (List.getElem?_eq_some_iff.1 hx).2
      simpa using this
    refine ⟨SortM.enc q, rfl, k59_mk w (s59 q), fun i u hi => ?_⟩
    have hi3 : i < 3 := by have := (List.getElem?_eq_some_iff.1 hi).1; exact this
    have := (h.cell hjd hi3).1
    rw [hq, List.getElem!_eq_getElem?_getD, hi] at this
    rw [show (⟨g, 0, none⟩ : Addr).add (j * k59.sz + i) = ⟨g, 0 + j * 3 + i, none⟩ by rw [add_plain, show k59.sz = 3 from rfl, Nat.zero_add]]
    exact this

open Go.Sort in
theorem below_putRow {w : World} {base g n : Nat} {d : Array SortM.E} (h : base ≤ g) : Go.RowKit.Below base w (putRowK SortM.enc 3 (Go.Sort.ahead w n) g 0 d) := by
  refine ⟨rfl, rfl, rfl, ?_, fun k hk => ?_⟩
  · show w.heap.size ≤ (w.heap.modify g _).size
    simp
  · show (w.heap.modify g _)[k]? = _
    rw [Array.getElem?_modify, if_neg (by omega)]

theorem near_of (l : List S28) (h : nearL l = true) (i : Nat) : SortU.Near ((l.map toE).toArray[i]!) := by
  unfold nearL at h
  rw [List.all_eq_true] at h
  by_cases hi : i < l.length
  · have := h (l[i]) (List.getElem_mem hi)
    simp at this
    have e : (l.map toE).toArray[i]! = toE l[i] := by simp [hi]
    rw [e]
    exact ⟨this.1, this.2⟩
  · have e : (l.map toE).toArray[i]! = default := by simp [hi]
    rw [e]
    exact ⟨by decide, by decide⟩

set_option maxHeartbeats 8000000 in
set_option maxRecDepth 100000 in
theorem impl_SortEdits.calls (A0 : Option Addr) (c0 : Nat) (l0 : List (S28)) (r : List (S28)) (w : World) (hr0 : Kd.C k28 w A0 l0.length l0) (hc0 : l0.length ≤ c0) (h : impl_SortEdits.f l0 = some r) :
    Calls Try.prog 9 #[.slice A0 l0.length c0] w fun e w' => ∃ v0_ : Value, e = .returned (v0_) ∧ Kd.R k28 28 w' w.heap.size (fun _ => True) v0_ r ∧ Below w.heap.size w w' := by
  have hlen : l0.length < 4398046511104 := by
    unfold impl_SortEdits.f at h; split at h
    · assumption
    · cases h
  have hnear : nearL l0 = true := by
    unfold impl_SortEdits.f at h; rw [if_pos hlen] at h; split at h
    · assumption
    · cases h
  have hr : r = (SortU.sortE (l0.map toE)).map ofE := by
    unfold impl_SortEdits.f at h; rw [if_pos hlen, if_pos hnear] at h; exact (Option.some.inj h).symm
  have hgiven := impl_given.calls (l0.length + 1) A0 c0 l0 (l0.map to59) w hr0 hc0 (given_is l0 hlen)
  have HRR := Lib.hid hr
  have HN := Lib.hid hnear
  clear hr0 hc0 h hr hnear
  go_enter Try.func9, Try.ntmps9
  go_wp2_with fail
  refine hgiven.mono ?_
  rintro e w1 ⟨v1, rfl, hR1, hB1⟩
  by_cases h0 : l0.length = 0
  · obtain rfl : l0 = [] := List.eq_nil_of_length_eq_zero h0
    obtain ⟨A1, c1, rfl, _, hC1⟩ := Kd.R_reads hR1
    have htold := impl_told.calls 1 A1 c1 [] [] w1 hC1 (by simp) (told_is [] (by simp))
    have HB1 := Aside0.mk hB1
    clear hR1 hC1 hB1 hgiven
    go_wp2_with fail
    refine (SortU.sortEdits_none A1 c1 w1).mono ?_
    rintro e w2 ⟨rfl, rfl⟩
    go_wp2_with fail
    refine htold.mono ?_
    rintro e w3 ⟨v3, rfl, hR3, hB3⟩
    have HR3 := Aside0.mk hR3
    have HB3 := Aside0.mk hB3
    clear hR3 hB3
    go_wp2_with fail
    go_ret
    exact ⟨_, rfl, by rw [HRR.out]; exact Kd.R_lower HR3.out HB1.out.size, below_step HB1.out HB3.out⟩
  · obtain ⟨g, cap, rfl, hgb, hcap, hH⟩ := open59 hR1 (by rw [List.length_map]; omega)
    have hsz : ((l0.map to59).map e59).toArray.size = l0.length := by simp
    have hE : ((l0.map to59).map e59) = l0.map toE := by rw [List.map_map]; rfl
    rw [hE] at hH hsz
    have hsort := SortU.sortEdits_any w1 g 0 cap (l0.map toE).toArray hH (near_of l0 HN.out) (by rw [hsz]; omega)
    rw [hsz] at hsort
    have HS := Aside0.mk hsz
    have HH := Aside0.mk hH
    have HB1 := Aside0.mk hB1
    have HR1 := Aside0.mk hR1
    clear hR1 hB1 hgiven hsz hE hH
    have hl : (l0.map to59).length = l0.length := List.length_map ..
    rw [hl]
    clear hl
    go_wp2_with fail
    refine hsort.mono ?_
    rintro e w2 ⟨rfl, m, d', hd', rfl⟩
    have hds : d'.size = l0.length := by
      have := congrArg List.length hd'
      rw [sortE_length] at this
      simpa using this
    have hC2 := shut59 (w := Go.Sort.putRowK SortM.enc 3 (Go.Sort.ahead w1 m) g 0 d') (Go.Sort.holdsK_putRowK SortM.enc 3 _ g 0 _ d' (Go.Sort.holdsK_ahead SortM.enc 3 _ _ _ _ _ HH.out) (by rw [hds, HS.out])) (by omega)
    have hl2 : (d'.toList.map s59).length = l0.length := by rw [List.length_map, Array.length_toList, hds]
    rw [hds] at hC2
    have hC3 : Kd.C k59 (Go.Sort.putRowK SortM.enc 3 (Go.Sort.ahead w1 m) g 0 d') (some ⟨g, 0, none⟩) (d'.toList.map s59).length (d'.toList.map s59) := by rw [hl2]; exact hC2
    have htold := impl_told.calls ((d'.toList.map s59).length + 1) (some ⟨g, 0, none⟩) cap (d'.toList.map s59) _ _ hC3 (by rw [hl2]; rw [List.length_map] at hcap; exact hcap) (told_is _ (by rw [hl2]; exact hlen))
    rw [hl2] at htold
    have HB2 := Aside0.mk (HB1.out.trans (below_putRow (n := m) (d := d') hgb) : Go.RowKit.Below w.heap.size w _)
    have hfin : r = (d'.toList.map s59).map of59 := by rw [HRR.out, hd', List.map_map]; rfl
    have HF := Lib.hid hfin
    clear hC2 hC3 hl2 hds hd' hsort hfin
    generalize Go.Sort.putRowK SortM.enc 3 (Go.Sort.ahead w1 m) g 0 d' = w2 at *
    go_wp2_with fail
    refine htold.mono ?_
    rintro e w3 ⟨v3, rfl, hR3, hB3⟩
    have HR3 := Aside0.mk hR3
    have HB3 := Aside0.mk hB3
    clear hR3 hB3
    go_wp2_with fail
    go_ret
    exact ⟨_, rfl, by rw [HF.out]; exact Kd.R_lower HR3.out HB2.out.size, below_step HB2.out HB3.out⟩

end Go.Proofs.Ytonajgipkpnpoaa.QFnSortReference
