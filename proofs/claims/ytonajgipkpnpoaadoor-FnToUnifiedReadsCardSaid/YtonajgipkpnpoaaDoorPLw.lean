/- Sections of a print (the kit's printer, and this session's copy of it), cut out by wip/gen/cutq.py. -/
import Derived.Test.YtonajgipkpnpoaaDoorQFnToUnifiedReadsx0
import Derived.Test.YtonajgipkpnpoaaDoorCSru
import Derived.StillTailTactics
import Derived.Deep.CutBlock
import Derived.IntWalk
import Derived.Lib.Hide
namespace Go.Proofs.YtonajgipkpnpoaaDoor.QFnToUnifiedReads
open Go.RowKit Go.Proofs.YtonajgipkpnpoaaDoorW.PrintWords Go.Proofs.YtonajgipkpnpoaaDoorW.PrintLast Go.Proofs.YtonajgipkpnpoaaDoorW.PrintMore
attribute [local go_sem] max2_int min2_int max_two min_two max_three min_three max_four min_four   -- for this text's walks alone
set_option linter.unusedVariables false
set_option linter.unusedSimpArgs false
/-! ### laws_zzFits2: function 13 -/
def laws_zzFits2.f (a0_0 : Int) (a0_1 : Int) (a0_2 : ByteArray) : Option (Bool) := if (a0_2.size : Int) > 2147483647 then (some false) else (some true)
set_option maxHeartbeats 8000000 in
set_option maxRecDepth 100000 in
theorem laws_zzFits2.calls (a0_0 : Int) (a0_1 : Int) (a0_2 : ByteArray) (r : Bool) (w : World) (h : laws_zzFits2.f a0_0 a0_1 a0_2 = some r) :
    Calls Tryd.prog 13 #[.agg #[.int .i64 a0_0, .int .i64 a0_1, .string a0_2]] w fun e w' => e = .returned (.bool r) ∧ Below w.heap.size w w' := by
  have hu38 := Tryd.underlying38
  have HB := Aside0.mk (Below.refl w.heap.size w)
  have H : (if (a0_2.size : Int) > 2147483647 then (some false) else (some true)) = some r := h
  clear h
  by_cases c2 : (a0_2.size : Int) > 2147483647
  · rw [if_pos c2] at H
    have c2b0 : decide (2147483647 < (a0_2.size : Int)) = true := decide_eq_true c2
    have c2b1 : decide (2147483647 < a0_2.size) = true := decide_eq_true (by omega)
    clear c2
    obtain rfl := Option.some.inj H
    go_enter Tryd.func13, Tryd.ntmps13
    go_wp2_with (first | ((with_reducible refine gate_dst (N := 1) rfl ?_); refine box_event ?hg (N := 1) ?hd (cs := #[.int .i64 a0_0, .int .i64 a0_1, .string a0_2]) (t := 38) ?hr ?_; (case hd => rfl); (case hg => rfl); (case hr => first | (go_simp; done) | (go_simp; rfl)); intro gb101 hg w3 hbox hb; have n0_ := Aside0.mk (below_step (by repeat (first | (with_reducible first | exact HB.out | apply below_alloc | apply pw_below_drewN | apply below_drew1) | exact HB.out)) hb); have n1_ := Aside0.mk (hbox); have n2_ := Aside0.mk ((by rw [hg]; exact (below_size (by repeat (first | (with_reducible first | exact HB.out | apply below_alloc | apply pw_below_drewN | apply below_drew1) | exact HB.out))) : w.heap.size ≤ gb101)); have n3_ := Aside0.mk ((by rw [hg]; exact (below_size (by repeat (first | (with_reducible first | exact HB.out | apply below_alloc | apply pw_below_drewN | apply below_drew1) | exact HB.out))) : w.heap.size ≤ gb101)); clear HB; have HB := n0_; have BK101 := n1_; have GW101 := n2_; have GE101 := n3_; clear n0_ n1_ n2_ n3_; clear hb hbox hg; have hcz4_0 : w3.cell? ⟨gb101, 0, none⟩ = some (.int .i64 a0_0) := (blk_cell BK101.out 0).trans rfl; have hcz4_1 : w3.cell? ⟨gb101, 1, none⟩ = some (.int .i64 a0_1) := (blk_cell BK101.out 1).trans rfl; have hcz4_2 : w3.cell? ⟨gb101, 2, none⟩ = some (.string a0_2) := (blk_cell BK101.out 2).trans rfl; have hfz4_0 := blk_frozen BK101.out 0; have hfz4_1 := blk_frozen BK101.out 1; have hfz4_2 := blk_frozen BK101.out 2))
    go_ret
    exact ⟨by first | rfl | (simp [errW_none, errW_some] <;> rfl) | (simp [*, errW_none, errW_some] <;> rfl), by repeat (first | (with_reducible first | exact HB.out | apply below_alloc | apply pw_below_drewN | apply below_drew1 | refine below_set ?_ GE101.out) | exact HB.out)⟩
  · rw [if_neg c2] at H
    have c2b0 : decide (2147483647 < (a0_2.size : Int)) = false := decide_eq_false c2
    have c2b1 : decide (2147483647 < a0_2.size) = false := decide_eq_false (by omega)
    clear c2
    obtain rfl := Option.some.inj H
    go_enter Tryd.func13, Tryd.ntmps13
    go_wp2_with (first | ((with_reducible refine gate_dst (N := 1) rfl ?_); refine box_event ?hg (N := 1) ?hd (cs := #[.int .i64 a0_0, .int .i64 a0_1, .string a0_2]) (t := 38) ?hr ?_; (case hd => rfl); (case hg => rfl); (case hr => first | (go_simp; done) | (go_simp; rfl)); intro gb101 hg w5 hbox hb; have n0_ := Aside0.mk (below_step (by repeat (first | (with_reducible first | exact HB.out | apply below_alloc | apply pw_below_drewN | apply below_drew1) | exact HB.out)) hb); have n1_ := Aside0.mk (hbox); have n2_ := Aside0.mk ((by rw [hg]; exact (below_size (by repeat (first | (with_reducible first | exact HB.out | apply below_alloc | apply pw_below_drewN | apply below_drew1) | exact HB.out))) : w.heap.size ≤ gb101)); have n3_ := Aside0.mk ((by rw [hg]; exact (below_size (by repeat (first | (with_reducible first | exact HB.out | apply below_alloc | apply pw_below_drewN | apply below_drew1) | exact HB.out))) : w.heap.size ≤ gb101)); clear HB; have HB := n0_; have BK101 := n1_; have GW101 := n2_; have GE101 := n3_; clear n0_ n1_ n2_ n3_; clear hb hbox hg; have hcz6_0 : w5.cell? ⟨gb101, 0, none⟩ = some (.int .i64 a0_0) := (blk_cell BK101.out 0).trans rfl; have hcz6_1 : w5.cell? ⟨gb101, 1, none⟩ = some (.int .i64 a0_1) := (blk_cell BK101.out 1).trans rfl; have hcz6_2 : w5.cell? ⟨gb101, 2, none⟩ = some (.string a0_2) := (blk_cell BK101.out 2).trans rfl; have hfz6_0 := blk_frozen BK101.out 0; have hfz6_1 := blk_frozen BK101.out 1; have hfz6_2 := blk_frozen BK101.out 2))
    go_ret
    exact ⟨by first | rfl | (simp [errW_none, errW_some] <;> rfl) | (simp [*, errW_none, errW_some] <;> rfl), by repeat (first | (with_reducible first | exact HB.out | apply below_alloc | apply pw_below_drewN | apply below_drew1 | refine below_set ?_ GE101.out) | exact HB.out)⟩

/-! ### laws_zzFits1: function 4 -/
def laws_zzFits1.l0 : Nat → List (S38) → Int → Int → Option (Bool)
  | 0, _, _, _ => none
  | k + 1, x8, x9, x10 => if x10 < x9 then (if 0 ≤ x10 then (if x10 < (x8.length : Int) then ((laws_zzFits2.f ((rd_T38 x8 x10).f0) ((rd_T38 x8 x10).f1) ((rd_T38 x8 x10).f2)).bind fun t104 => (if t104 = true then (laws_zzFits1.l0 k x8 x9 (wrap64 (x10 + 1))) else (some false))) else (none)) else (none)) else (some true)
def laws_zzFits1.f (k : Nat) (l0 : List (S38)) : Option (Bool) := if (l0.length : Int) > 2147483647 then (some false) else (laws_zzFits1.l0 k l0 (l0.length : Int) 0)
theorem laws_zzFits1.mono_l : ∀ k, (∀ y0 y1 y2, LeO (laws_zzFits1.l0 k y0 y1 y2) (laws_zzFits1.l0 (k + 1) y0 y1 y2))
  | 0 => fun _ _ _ r h => by simp [laws_zzFits1.l0] at h
  | k + 1 => by
    have ih0 := laws_zzFits1.mono_l k
    · intro y0 y1 y2
      unfold laws_zzFits1.l0
      repeat' first
      | (with_reducible exact ih0 _ _ _)
      | (with_reducible exact LeO.refl _)
      | (with_reducible exact LeO.none _)
      | (with_reducible refine LeO.ite ?_ ?_)
      | (with_reducible refine LeO.bind ?_ (fun _ => ?_))
      | exact ih0 _ _ _
      | exact LeO.none _
      | refine LeO.ite ?_ ?_
      | refine LeO.bind ?_ (fun _ => ?_)
theorem laws_zzFits1.mono : ∀ a0 k, LeO (laws_zzFits1.f k a0) (laws_zzFits1.f (k + 1) a0) := by
  intro a0 k
  have ih0 := laws_zzFits1.mono_l k
  unfold laws_zzFits1.f
  repeat' first
      | (with_reducible exact ih0 _ _ _)
      | (with_reducible exact LeO.refl _)
      | (with_reducible exact LeO.none _)
      | (with_reducible refine LeO.ite ?_ ?_)
      | (with_reducible refine LeO.bind ?_ (fun _ => ?_))
      | exact ih0 _ _ _
      | exact LeO.none _
      | refine LeO.ite ?_ ?_
      | refine LeO.bind ?_ (fun _ => ?_)
set_option maxHeartbeats 8000000 in
set_option maxRecDepth 100000 in
theorem laws_zzFits1.calls (k : Nat) (A0 : Option Addr) (c0 : Nat) (l0 : List (S38)) (r : Bool) (w : World) (hr0 : Kd.C k38 w A0 l0.length l0) (hc0 : l0.length ≤ c0) (h : laws_zzFits1.f k l0 = some r) :
    Calls Tryd.prog 4 #[.slice A0 l0.length c0] w fun e w' => e = .returned (.bool r) ∧ Below w.heap.size w w' := by
  have hu38 := Tryd.underlying38
  have HR0 := Aside0.mk hr0
  have HC0 := Aside0.mk hc0
  clear hr0 hc0
  have HB := Aside0.mk (Below.refl w.heap.size w)
  have H : (if (l0.length : Int) > 2147483647 then (some false) else (laws_zzFits1.l0 k l0 (l0.length : Int) 0)) = some r := h
  clear h
  by_cases c2 : (l0.length : Int) > 2147483647
  · rw [if_pos c2] at H
    have c2b0 : decide (2147483647 < (l0.length : Int)) = true := decide_eq_true c2
    have c2b1 : decide (2147483647 < l0.length) = true := decide_eq_true (by omega)
    clear c2
    obtain rfl := Option.some.inj H
    go_enter Tryd.func4, Tryd.ntmps4
    go_wp2
    go_ret
    exact ⟨by first | rfl | (simp [errW_none, errW_some] <;> rfl) | (simp [*, errW_none, errW_some] <;> rfl), by repeat (first | (with_reducible first | exact HB.out | apply below_alloc | apply pw_below_drewN | apply below_drew1) | exact HB.out)⟩
  · rw [if_neg c2] at H
    have c2b0 : decide (2147483647 < (l0.length : Int)) = false := decide_eq_false c2
    have c2b1 : decide (2147483647 < l0.length) = false := decide_eq_false (by omega)
    clear c2
    have H' := Aside0.mk H
    clear H
    go_enter Tryd.func4, Tryd.ntmps4
    go_wp2
    go_loopg [10] k (fun kq v10 w' => ∃ (x10_1 : Int), v10 = .int .i64 x10_1 ∧ Aside0 (laws_zzFits1.l0 kq l0 (l0.length : Int) x10_1 = some r) ∧ Aside0 (kq ≤ k) ∧ Aside0 (Below w.heap.size w w'))
    case atStart => exact ⟨(0), (by first | rfl | (simp; done) | (simp [*]; done)), H', ⟨Nat.le_refl _⟩, ⟨by repeat (first | (with_reducible first | exact HB.out | apply below_alloc | apply pw_below_drewN | apply below_drew1) | exact HB.out)⟩⟩
    case round =>
      clear H'
      try clear c2
      try clear c2b0
      try clear c2b1
      try clear p2
      obtain ⟨x10_1, rfl, HA, HK1, HB⟩ := hrel
      cases gk with
      | zero => exact absurd HA.out (by simp [laws_zzFits1.l0])
      | succ k1 =>
        have H := HA.out
        clear HA
        simp only [laws_zzFits1.l0] at H
        by_cases c3 : x10_1 < (l0.length : Int)
        · rw [if_pos c3] at H
          have c3b0 : decide (x10_1 < (l0.length : Int)) = true := decide_eq_true c3
          clear c3
          by_cases c4 : 0 ≤ x10_1
          · rw [if_pos c4] at H
            have c4b0 : decide (0 ≤ x10_1) = true := decide_eq_true c4
            clear c4
            by_cases c5 : x10_1 < (l0.length : Int)
            · rw [if_pos c5] at H
              have c5b0 : decide (x10_1 < (l0.length : Int)) = true := decide_eq_true c5
              clear c5
              replace H := Option.bind_eq_some_iff.mp H
              obtain ⟨t104, A60, H⟩ := H
              replace H : (if t104 = true then (laws_zzFits1.l0 k1 l0 (l0.length : Int) (wrap64 (x10_1 + 1))) else (some false)) = some r := H
              have A6 := Aside0.mk A60
              clear A60
              by_cases c7 : t104 = true
              · subst c7
                have H1 : (laws_zzFits1.l0 k1 l0 (l0.length : Int) (wrap64 (x10_1 + 1))) = some r := by rw [if_pos rfl] at H; exact H
                clear H
                have H := H1
                clear H1
                have H' := Aside0.mk H
                clear H
                have p102 : 0 ≤ (x10_1 : Int) := of_decide_eq_true (by first | (with_reducible assumption) | assumption)
                have q102 : x10_1 < (l0.length : Int) := of_decide_eq_true (by first | (with_reducible assumption) | assumption)
                obtain ⟨ad102, e102, hx102_0, hx102_1, hx102_2⟩ := at_T38 HR0.out x10_1 p102 q102
                cases e102
                replace hx102_0 := (HB.out.cell (World.block_lt_of_cell? w _ hx102_0)).trans hx102_0
                replace hx102_1 := (HB.out.cell (World.block_lt_of_cell? w _ hx102_1)).trans hx102_1
                replace hx102_2 := (HB.out.cell (World.block_lt_of_cell? w _ hx102_2)).trans hx102_2
                replace p102 := eq_true p102
                replace q102 := eq_true q102
                go_wp2_with (first | ((with_reducible refine gate_dst (N := 4) rfl ?_); refine box_event ?hg (N := 4) ?hd (cs := #[.int .i64 0, .int .i64 0, .string (⟨#[]⟩ : ByteArray)]) (t := 38) ?hr ?_; (case hd => rfl); (case hg => rfl); (case hr => first | (go_simp; done) | (go_simp; rfl)); intro gb103 hg w8 hbox hb; have n0_ := Aside0.mk (below_step (by repeat (first | (with_reducible first | exact HB.out | apply below_alloc | apply pw_below_drewN | apply below_drew1) | exact HB.out)) hb); have n1_ := Aside0.mk (hbox); have n2_ := Aside0.mk ((by rw [hg]; exact (below_size (by repeat (first | (with_reducible first | exact HB.out | apply below_alloc | apply pw_below_drewN | apply below_drew1) | exact HB.out))) : w.heap.size ≤ gb103)); have n3_ := Aside0.mk ((by rw [hg]; exact (below_size (by repeat (first | (with_reducible first | exact HB.out | apply below_alloc | apply pw_below_drewN | apply below_drew1) | exact HB.out))) : w.heap.size ≤ gb103)); clear HB; have HB := n0_; have BK103 := n1_; have GW103 := n2_; have GE103 := n3_; clear n0_ n1_ n2_ n3_; clear hb hbox hg; have hcz9_0 : w8.cell? ⟨gb103, 0, none⟩ = some (.int .i64 0) := (blk_cell BK103.out 0).trans rfl; have hcz9_1 : w8.cell? ⟨gb103, 1, none⟩ = some (.int .i64 0) := (blk_cell BK103.out 1).trans rfl; have hcz9_2 : w8.cell? ⟨gb103, 2, none⟩ = some (.string (⟨#[]⟩ : ByteArray)) := (blk_cell BK103.out 2).trans rfl; have hfz9_0 := blk_frozen BK103.out 0; have hfz9_1 := blk_frozen BK103.out 1; have hfz9_2 := blk_frozen BK103.out 2) | ((with_reducible refine gate_callee (f := 13) rfl ?_); refine goesL_ (some 15) rfl rfl Tryd.func13 (by kernel_rfl) rfl #[.agg #[.int .i64 ((rd_T38 l0 x10_1).f0), .int .i64 ((rd_T38 l0 x10_1).f1), .string ((rd_T38 l0 x10_1).f2)]] rfl (by (try simp only [List.map_toArray, List.map_cons, List.map_nil]); first | done | rfl | (simp only [List.length_drop, List.length_take]; rfl)) ?_; (with_reducible refine (laws_zzFits2.calls ((rd_T38 l0 x10_1).f0) ((rd_T38 l0 x10_1).f1) ((rd_T38 l0 x10_1).f2) true _ A6.out).mono ?_); rintro e w10 ⟨rfl, hb⟩; refine ⟨_, rfl, ?_⟩; have n0_ := Aside0.mk (blk_below (g := gb103) (o := .cells #[.int .i64 ((rd_T38 l0 x10_1).f0), .int .i64 ((rd_T38 l0 x10_1).f1), .string ((rd_T38 l0 x10_1).f2)] 38 (0, 0)) (by (with_reducible repeat (first | refine blk_drewN ?_ _ | refine blk_drew ?_ | refine blk_alloc ?_ _)); refine blk_put (cs := #[.int .i64 ((rd_T38 l0 x10_1).f0), .int .i64 ((rd_T38 l0 x10_1).f1), .string (⟨#[]⟩ : ByteArray)]) ?_ 2 _ rfl; (with_reducible repeat (first | refine blk_drewN ?_ _ | refine blk_drew ?_ | refine blk_alloc ?_ _)); refine blk_put (cs := #[.int .i64 ((rd_T38 l0 x10_1).f0), .int .i64 0, .string (⟨#[]⟩ : ByteArray)]) ?_ 1 _ rfl; (with_reducible repeat (first | refine blk_drewN ?_ _ | refine blk_drew ?_ | refine blk_alloc ?_ _)); refine blk_put (cs := #[.int .i64 0, .int .i64 0, .string (⟨#[]⟩ : ByteArray)]) ?_ 0 _ rfl; (with_reducible repeat (first | refine blk_drewN ?_ _ | refine blk_drew ?_ | refine blk_alloc ?_ _)); exact BK103.out) hb); have n1_ := Aside0.mk (below_step (by repeat (first | (with_reducible first | exact HB.out | apply below_alloc | apply pw_below_drewN | apply below_drew1 | refine below_set ?_ GE103.out) | exact HB.out)) hb); clear BK103; clear HB; have BK103 := n0_; have HB := n1_; clear n0_ n1_; (try clear hb); (try clear hb2); (try clear hk); (try clear hi)))
                go_roundg k1
                case measure => have := HK1.out; omega
                case rel => exact ⟨(wrap64 (x10_1 + 1)), (by first | rfl | (simp; done) | (simp [*]; done)), H', ⟨by have := HK1.out; omega⟩, ⟨by repeat (first | (with_reducible first | exact HB.out | apply below_alloc | apply pw_below_drewN | apply below_drew1 | refine below_set ?_ GE103.out) | exact HB.out)⟩⟩
              · replace c7 := Bool.eq_false_iff.mpr c7
                subst c7
                have H1 : (some false) = some r := by rw [if_neg (show ¬ (false = true) by decide)] at H; exact H
                clear H
                have H := H1
                clear H1
                obtain rfl := Option.some.inj H
                have p102 : 0 ≤ (x10_1 : Int) := of_decide_eq_true (by first | (with_reducible assumption) | assumption)
                have q102 : x10_1 < (l0.length : Int) := of_decide_eq_true (by first | (with_reducible assumption) | assumption)
                obtain ⟨ad102, e102, hx102_0, hx102_1, hx102_2⟩ := at_T38 HR0.out x10_1 p102 q102
                cases e102
                replace hx102_0 := (HB.out.cell (World.block_lt_of_cell? w _ hx102_0)).trans hx102_0
                replace hx102_1 := (HB.out.cell (World.block_lt_of_cell? w _ hx102_1)).trans hx102_1
                replace hx102_2 := (HB.out.cell (World.block_lt_of_cell? w _ hx102_2)).trans hx102_2
                replace p102 := eq_true p102
                replace q102 := eq_true q102
                go_wp2_with (first | ((with_reducible refine gate_dst (N := 4) rfl ?_); refine box_event ?hg (N := 4) ?hd (cs := #[.int .i64 0, .int .i64 0, .string (⟨#[]⟩ : ByteArray)]) (t := 38) ?hr ?_; (case hd => rfl); (case hg => rfl); (case hr => first | (go_simp; done) | (go_simp; rfl)); intro gb103 hg w11 hbox hb; have n0_ := Aside0.mk (below_step (by repeat (first | (with_reducible first | exact HB.out | apply below_alloc | apply pw_below_drewN | apply below_drew1) | exact HB.out)) hb); have n1_ := Aside0.mk (hbox); have n2_ := Aside0.mk ((by rw [hg]; exact (below_size (by repeat (first | (with_reducible first | exact HB.out | apply below_alloc | apply pw_below_drewN | apply below_drew1) | exact HB.out))) : w.heap.size ≤ gb103)); have n3_ := Aside0.mk ((by rw [hg]; exact (below_size (by repeat (first | (with_reducible first | exact HB.out | apply below_alloc | apply pw_below_drewN | apply below_drew1) | exact HB.out))) : w.heap.size ≤ gb103)); clear HB; have HB := n0_; have BK103 := n1_; have GW103 := n2_; have GE103 := n3_; clear n0_ n1_ n2_ n3_; clear hb hbox hg; have hcz12_0 : w11.cell? ⟨gb103, 0, none⟩ = some (.int .i64 0) := (blk_cell BK103.out 0).trans rfl; have hcz12_1 : w11.cell? ⟨gb103, 1, none⟩ = some (.int .i64 0) := (blk_cell BK103.out 1).trans rfl; have hcz12_2 : w11.cell? ⟨gb103, 2, none⟩ = some (.string (⟨#[]⟩ : ByteArray)) := (blk_cell BK103.out 2).trans rfl; have hfz12_0 := blk_frozen BK103.out 0; have hfz12_1 := blk_frozen BK103.out 1; have hfz12_2 := blk_frozen BK103.out 2) | ((with_reducible refine gate_callee (f := 13) rfl ?_); refine goesL_ (some 15) rfl rfl Tryd.func13 (by kernel_rfl) rfl #[.agg #[.int .i64 ((rd_T38 l0 x10_1).f0), .int .i64 ((rd_T38 l0 x10_1).f1), .string ((rd_T38 l0 x10_1).f2)]] rfl (by (try simp only [List.map_toArray, List.map_cons, List.map_nil]); first | done | rfl | (simp only [List.length_drop, List.length_take]; rfl)) ?_; (with_reducible refine (laws_zzFits2.calls ((rd_T38 l0 x10_1).f0) ((rd_T38 l0 x10_1).f1) ((rd_T38 l0 x10_1).f2) false _ A6.out).mono ?_); rintro e w13 ⟨rfl, hb⟩; refine ⟨_, rfl, ?_⟩; have n0_ := Aside0.mk (blk_below (g := gb103) (o := .cells #[.int .i64 ((rd_T38 l0 x10_1).f0), .int .i64 ((rd_T38 l0 x10_1).f1), .string ((rd_T38 l0 x10_1).f2)] 38 (0, 0)) (by (with_reducible repeat (first | refine blk_drewN ?_ _ | refine blk_drew ?_ | refine blk_alloc ?_ _)); refine blk_put (cs := #[.int .i64 ((rd_T38 l0 x10_1).f0), .int .i64 ((rd_T38 l0 x10_1).f1), .string (⟨#[]⟩ : ByteArray)]) ?_ 2 _ rfl; (with_reducible repeat (first | refine blk_drewN ?_ _ | refine blk_drew ?_ | refine blk_alloc ?_ _)); refine blk_put (cs := #[.int .i64 ((rd_T38 l0 x10_1).f0), .int .i64 0, .string (⟨#[]⟩ : ByteArray)]) ?_ 1 _ rfl; (with_reducible repeat (first | refine blk_drewN ?_ _ | refine blk_drew ?_ | refine blk_alloc ?_ _)); refine blk_put (cs := #[.int .i64 0, .int .i64 0, .string (⟨#[]⟩ : ByteArray)]) ?_ 0 _ rfl; (with_reducible repeat (first | refine blk_drewN ?_ _ | refine blk_drew ?_ | refine blk_alloc ?_ _)); exact BK103.out) hb); have n1_ := Aside0.mk (below_step (by repeat (first | (with_reducible first | exact HB.out | apply below_alloc | apply pw_below_drewN | apply below_drew1 | refine below_set ?_ GE103.out) | exact HB.out)) hb); clear BK103; clear HB; have BK103 := n0_; have HB := n1_; clear n0_ n1_; (try clear hb); (try clear hb2); (try clear hk); (try clear hi)))
                go_ret
                exact ⟨by first | rfl | (simp [errW_none, errW_some] <;> rfl) | (simp [*, errW_none, errW_some] <;> rfl), by repeat (first | (with_reducible first | exact HB.out | apply below_alloc | apply pw_below_drewN | apply below_drew1 | refine below_set ?_ GE103.out) | exact HB.out)⟩
            · rw [if_neg c5] at H
              exact absurd H (by simp)
          · rw [if_neg c4] at H
            exact absurd H (by simp)
        · rw [if_neg c3] at H
          have c3b0 : decide (x10_1 < (l0.length : Int)) = false := decide_eq_false c3
          clear c3
          obtain rfl := Option.some.inj H
          go_wp2
          go_ret
          exact ⟨by first | rfl | (simp [errW_none, errW_some] <;> rfl) | (simp [*, errW_none, errW_some] <;> rfl), by repeat (first | (with_reducible first | exact HB.out | apply below_alloc | apply pw_below_drewN | apply below_drew1) | exact HB.out)⟩

/-! ### spec_TooLong: function 5 -/
def spec_TooLong.l0 : Nat → Int → List Int → Int → Int → Option (Bool)
  | 0, _, _, _, _ => none
  | k + 1, x3, x6, x7, x8 => if x8 < x7 then (if 0 ≤ x8 then (if x8 < (x6.length : Int) then (if (rd x6 x8) > (wrap64 (1000000 - x3)) then (some true) else (spec_TooLong.l0 k (wrap64 (x3 + (rd x6 x8))) x6 x7 (wrap64 (x8 + 1)))) else (none)) else (none)) else (some false)
def spec_TooLong.f (k : Nat) (l0 : List Int) : Option (Bool) := spec_TooLong.l0 k 0 l0 (l0.length : Int) 0
theorem spec_TooLong.mono_l : ∀ k, (∀ y0 y1 y2 y3, LeO (spec_TooLong.l0 k y0 y1 y2 y3) (spec_TooLong.l0 (k + 1) y0 y1 y2 y3))
  | 0 => fun _ _ _ _ r h => by simp [spec_TooLong.l0] at h
  | k + 1 => by
    have ih0 := spec_TooLong.mono_l k
    · intro y0 y1 y2 y3
      unfold spec_TooLong.l0
      repeat' first
      | (with_reducible exact ih0 _ _ _ _)
      | (with_reducible exact LeO.refl _)
      | (with_reducible exact LeO.none _)
      | (with_reducible refine LeO.ite ?_ ?_)
      | (with_reducible refine LeO.bind ?_ (fun _ => ?_))
      | exact ih0 _ _ _ _
      | exact LeO.none _
      | refine LeO.ite ?_ ?_
      | refine LeO.bind ?_ (fun _ => ?_)
theorem spec_TooLong.mono : ∀ a0 k, LeO (spec_TooLong.f k a0) (spec_TooLong.f (k + 1) a0) := by
  intro a0 k
  have ih0 := spec_TooLong.mono_l k
  unfold spec_TooLong.f
  repeat' first
      | (with_reducible exact ih0 _ _ _ _)
      | (with_reducible exact LeO.refl _)
      | (with_reducible exact LeO.none _)
      | (with_reducible refine LeO.ite ?_ ?_)
      | (with_reducible refine LeO.bind ?_ (fun _ => ?_))
      | exact ih0 _ _ _ _
      | exact LeO.none _
      | refine LeO.ite ?_ ?_
      | refine LeO.bind ?_ (fun _ => ?_)
set_option maxHeartbeats 8000000 in
set_option maxRecDepth 100000 in
theorem spec_TooLong.calls (k : Nat) (A0 : Option Addr) (c0 : Nat) (l0 : List Int) (r : Bool) (w : World) (hr0 : Kd.C (Kd.int .i64) w A0 l0.length l0) (hc0 : l0.length ≤ c0) (h : spec_TooLong.f k l0 = some r) :
    Calls Tryd.prog 5 #[.slice A0 l0.length c0] w fun e w' => e = .returned (.bool r) ∧ Drawn0 w w' := by
  have HR0 := Aside0.mk hr0
  have HC0 := Aside0.mk hc0
  clear hr0 hc0
  have H : (spec_TooLong.l0 k 0 l0 (l0.length : Int) 0) = some r := h
  clear h
  have H' := Aside0.mk H
  clear H
  go_enter Tryd.func5, Tryd.ntmps5
  go_wp2
  go_loopg [3, 8] k (fun kq v3 v8 w' => ∃ (x3_1 : Int) (x8_1 : Int), v3 = .int .i64 x3_1 ∧ v8 = .int .i64 x8_1 ∧ Aside0 (spec_TooLong.l0 kq x3_1 l0 (l0.length : Int) x8_1 = some r) ∧ Aside0 (kq ≤ k) ∧ Drawn0 w w')
  case atStart => exact ⟨(0), (0), (by first | rfl | (simp; done) | (simp [*]; done)), (by first | rfl | (simp; done) | (simp [*]; done)), H', ⟨Nat.le_refl _⟩, by repeat (first | exact Drawn0.refl _ | apply Drawn0.step)⟩
  case round =>
    clear H'
    obtain ⟨x3_1, x8_1, rfl, rfl, HA, HK1, ⟨m1, rfl⟩⟩ := hrel
    cases gk with
    | zero => exact absurd HA.out (by simp [spec_TooLong.l0])
    | succ k1 =>
      have H := HA.out
      clear HA
      simp only [spec_TooLong.l0] at H
      by_cases c2 : x8_1 < (l0.length : Int)
      · rw [if_pos c2] at H
        have c2b0 : decide (x8_1 < (l0.length : Int)) = true := decide_eq_true c2
        clear c2
        by_cases c3 : 0 ≤ x8_1
        · rw [if_pos c3] at H
          have c3b0 : decide (0 ≤ x8_1) = true := decide_eq_true c3
          clear c3
          by_cases c4 : x8_1 < (l0.length : Int)
          · rw [if_pos c4] at H
            have c4b0 : decide (x8_1 < (l0.length : Int)) = true := decide_eq_true c4
            clear c4
            by_cases c5 : (rd l0 x8_1) > (wrap64 (1000000 - x3_1))
            · rw [if_pos c5] at H
              have c5b0 : decide ((wrap64 (1000000 - x3_1)) < (rd l0 x8_1)) = true := decide_eq_true c5
              clear c5
              obtain rfl := Option.some.inj H
              have p105 : 0 ≤ (x8_1 : Int) := of_decide_eq_true (by first | (with_reducible assumption) | assumption)
              have q105 : x8_1 < (l0.length : Int) := of_decide_eq_true (by first | (with_reducible assumption) | assumption)
              obtain ⟨ad105, e105, hx105_0⟩ := Kd.at_int HR0.out x8_1 p105 q105
              cases e105
              replace p105 := eq_true p105
              replace q105 := eq_true q105
              go_wp2
              go_ret
              exact ⟨by first | rfl | (simp; done) | (simp [*]; done), by repeat (first | exact Drawn0.refl _ | apply Drawn0.step)⟩
            · rw [if_neg c5] at H
              have c5b0 : decide ((wrap64 (1000000 - x3_1)) < (rd l0 x8_1)) = false := decide_eq_false c5
              clear c5
              have H' := Aside0.mk H
              clear H
              have p105 : 0 ≤ (x8_1 : Int) := of_decide_eq_true (by first | (with_reducible assumption) | assumption)
              have q105 : x8_1 < (l0.length : Int) := of_decide_eq_true (by first | (with_reducible assumption) | assumption)
              obtain ⟨ad105, e105, hx105_0⟩ := Kd.at_int HR0.out x8_1 p105 q105
              cases e105
              replace p105 := eq_true p105
              replace q105 := eq_true q105
              go_wp2
              go_roundg k1
              case measure => have := HK1.out; omega
              case rel => exact ⟨(wrap64 (x3_1 + (rd l0 x8_1))), (wrap64 (x8_1 + 1)), (by first | rfl | (simp; done) | (simp [*]; done)), (by first | rfl | (simp; done) | (simp [*]; done)), H', ⟨by have := HK1.out; omega⟩, by repeat (first | exact Drawn0.refl _ | apply Drawn0.step)⟩
          · rw [if_neg c4] at H
            exact absurd H (by simp)
        · rw [if_neg c3] at H
          exact absurd H (by simp)
      · rw [if_neg c2] at H
        have c2b0 : decide (x8_1 < (l0.length : Int)) = false := decide_eq_false c2
        clear c2
        obtain rfl := Option.some.inj H
        go_wp2
        go_ret
        exact ⟨by first | rfl | (simp; done) | (simp [*]; done), by repeat (first | exact Drawn0.refl _ | apply Drawn0.step)⟩

/-! ### spec_SizeOfEdits: function 6 -/
def spec_SizeOfEdits.l0 : Nat → Int → List (S38) → Int → Int → Option (Int)
  | 0, _, _, _, _ => none
  | k + 1, x3, x6, x7, x8 => if x8 < x7 then (if 0 ≤ x8 then (if x8 < (x6.length : Int) then (if (((rd_T38 x6 x8).f2).size : Int) ≥ (wrap64 (1000000 - x3)) then (some 1000001) else (spec_SizeOfEdits.l0 k (wrap64 (x3 + (wrap64 ((((rd_T38 x6 x8).f2).size : Int) + 1)))) x6 x7 (wrap64 (x8 + 1)))) else (none)) else (none)) else (some x3)
def spec_SizeOfEdits.f (k : Nat) (l0 : List (S38)) : Option (Int) := spec_SizeOfEdits.l0 k 0 l0 (l0.length : Int) 0
theorem spec_SizeOfEdits.mono_l : ∀ k, (∀ y0 y1 y2 y3, LeO (spec_SizeOfEdits.l0 k y0 y1 y2 y3) (spec_SizeOfEdits.l0 (k + 1) y0 y1 y2 y3))
  | 0 => fun _ _ _ _ r h => by simp [spec_SizeOfEdits.l0] at h
  | k + 1 => by
    have ih0 := spec_SizeOfEdits.mono_l k
    · intro y0 y1 y2 y3
      unfold spec_SizeOfEdits.l0
      repeat' first
      | (with_reducible exact ih0 _ _ _ _)
      | (with_reducible exact LeO.refl _)
      | (with_reducible exact LeO.none _)
      | (with_reducible refine LeO.ite ?_ ?_)
      | (with_reducible refine LeO.bind ?_ (fun _ => ?_))
      | exact ih0 _ _ _ _
      | exact LeO.none _
      | refine LeO.ite ?_ ?_
      | refine LeO.bind ?_ (fun _ => ?_)
theorem spec_SizeOfEdits.mono : ∀ a0 k, LeO (spec_SizeOfEdits.f k a0) (spec_SizeOfEdits.f (k + 1) a0) := by
  intro a0 k
  have ih0 := spec_SizeOfEdits.mono_l k
  unfold spec_SizeOfEdits.f
  repeat' first
      | (with_reducible exact ih0 _ _ _ _)
      | (with_reducible exact LeO.refl _)
      | (with_reducible exact LeO.none _)
      | (with_reducible refine LeO.ite ?_ ?_)
      | (with_reducible refine LeO.bind ?_ (fun _ => ?_))
      | exact ih0 _ _ _ _
      | exact LeO.none _
      | refine LeO.ite ?_ ?_
      | refine LeO.bind ?_ (fun _ => ?_)
set_option maxHeartbeats 8000000 in
set_option maxRecDepth 100000 in
theorem spec_SizeOfEdits.calls (k : Nat) (A0 : Option Addr) (c0 : Nat) (l0 : List (S38)) (r : Int) (w : World) (hr0 : Kd.C k38 w A0 l0.length l0) (hc0 : l0.length ≤ c0) (h : spec_SizeOfEdits.f k l0 = some r) :
    Calls Tryd.prog 6 #[.slice A0 l0.length c0] w fun e w' => e = .returned (.int .i64 r) ∧ Below w.heap.size w w' := by
  have hu38 := Tryd.underlying38
  have HR0 := Aside0.mk hr0
  have HC0 := Aside0.mk hc0
  clear hr0 hc0
  have HB := Aside0.mk (Below.refl w.heap.size w)
  have H : (spec_SizeOfEdits.l0 k 0 l0 (l0.length : Int) 0) = some r := h
  clear h
  have H' := Aside0.mk H
  clear H
  go_enter Tryd.func6, Tryd.ntmps6
  go_wp2
  go_loopg [3, 8] k (fun kq v3 v8 w' => ∃ (x3_1 : Int) (x8_1 : Int), v3 = .int .i64 x3_1 ∧ v8 = .int .i64 x8_1 ∧ Aside0 (spec_SizeOfEdits.l0 kq x3_1 l0 (l0.length : Int) x8_1 = some r) ∧ Aside0 (kq ≤ k) ∧ Aside0 (Below w.heap.size w w'))
  case atStart => exact ⟨(0), (0), (by first | rfl | (simp; done) | (simp [*]; done)), (by first | rfl | (simp; done) | (simp [*]; done)), H', ⟨Nat.le_refl _⟩, ⟨by repeat (first | (with_reducible first | exact HB.out | apply below_alloc | apply pw_below_drewN | apply below_drew1) | exact HB.out)⟩⟩
  case round =>
    clear H'
    obtain ⟨x3_1, x8_1, rfl, rfl, HA, HK1, HB⟩ := hrel
    cases gk with
    | zero => exact absurd HA.out (by simp [spec_SizeOfEdits.l0])
    | succ k1 =>
      have H := HA.out
      clear HA
      simp only [spec_SizeOfEdits.l0] at H
      by_cases c2 : x8_1 < (l0.length : Int)
      · rw [if_pos c2] at H
        have c2b0 : decide (x8_1 < (l0.length : Int)) = true := decide_eq_true c2
        clear c2
        by_cases c3 : 0 ≤ x8_1
        · rw [if_pos c3] at H
          have c3b0 : decide (0 ≤ x8_1) = true := decide_eq_true c3
          clear c3
          by_cases c4 : x8_1 < (l0.length : Int)
          · rw [if_pos c4] at H
            have c4b0 : decide (x8_1 < (l0.length : Int)) = true := decide_eq_true c4
            clear c4
            by_cases c5 : (((rd_T38 l0 x8_1).f2).size : Int) ≥ (wrap64 (1000000 - x3_1))
            · rw [if_pos c5] at H
              have c5b0 : decide ((wrap64 (1000000 - x3_1)) ≤ (((rd_T38 l0 x8_1).f2).size : Int)) = true := decide_eq_true c5
              clear c5
              obtain rfl := Option.some.inj H
              have p106 : 0 ≤ (x8_1 : Int) := of_decide_eq_true (by first | (with_reducible assumption) | assumption)
              have q106 : x8_1 < (l0.length : Int) := of_decide_eq_true (by first | (with_reducible assumption) | assumption)
              obtain ⟨ad106, e106, hx106_0, hx106_1, hx106_2⟩ := at_T38 HR0.out x8_1 p106 q106
              cases e106
              replace hx106_0 := (HB.out.cell (World.block_lt_of_cell? w _ hx106_0)).trans hx106_0
              replace hx106_1 := (HB.out.cell (World.block_lt_of_cell? w _ hx106_1)).trans hx106_1
              replace hx106_2 := (HB.out.cell (World.block_lt_of_cell? w _ hx106_2)).trans hx106_2
              replace p106 := eq_true p106
              replace q106 := eq_true q106
              go_wp2_with (first | ((with_reducible refine gate_dst (N := 5) rfl ?_); refine box_event ?hg (N := 5) ?hd (cs := #[.int .i64 0, .int .i64 0, .string (⟨#[]⟩ : ByteArray)]) (t := 38) ?hr ?_; (case hd => rfl); (case hg => rfl); (case hr => first | (go_simp; done) | (go_simp; rfl)); intro gb107 hg w6 hbox hb; have n0_ := Aside0.mk (below_step (by repeat (first | (with_reducible first | exact HB.out | apply below_alloc | apply pw_below_drewN | apply below_drew1) | exact HB.out)) hb); have n1_ := Aside0.mk (hbox); have n2_ := Aside0.mk ((by rw [hg]; exact (below_size (by repeat (first | (with_reducible first | exact HB.out | apply below_alloc | apply pw_below_drewN | apply below_drew1) | exact HB.out))) : w.heap.size ≤ gb107)); have n3_ := Aside0.mk ((by rw [hg]; exact (below_size (by repeat (first | (with_reducible first | exact HB.out | apply below_alloc | apply pw_below_drewN | apply below_drew1) | exact HB.out))) : w.heap.size ≤ gb107)); clear HB; have HB := n0_; have BK107 := n1_; have GW107 := n2_; have GE107 := n3_; clear n0_ n1_ n2_ n3_; clear hb hbox hg; have hcz7_0 : w6.cell? ⟨gb107, 0, none⟩ = some (.int .i64 0) := (blk_cell BK107.out 0).trans rfl; have hcz7_1 : w6.cell? ⟨gb107, 1, none⟩ = some (.int .i64 0) := (blk_cell BK107.out 1).trans rfl; have hcz7_2 : w6.cell? ⟨gb107, 2, none⟩ = some (.string (⟨#[]⟩ : ByteArray)) := (blk_cell BK107.out 2).trans rfl; have hfz7_0 := blk_frozen BK107.out 0; have hfz7_1 := blk_frozen BK107.out 1; have hfz7_2 := blk_frozen BK107.out 2))
              go_ret
              exact ⟨by first | rfl | (simp [errW_none, errW_some] <;> rfl) | (simp [*, errW_none, errW_some] <;> rfl), by repeat (first | (with_reducible first | exact HB.out | apply below_alloc | apply pw_below_drewN | apply below_drew1 | refine below_set ?_ GE107.out) | exact HB.out)⟩
            · rw [if_neg c5] at H
              have c5b0 : decide ((wrap64 (1000000 - x3_1)) ≤ (((rd_T38 l0 x8_1).f2).size : Int)) = false := decide_eq_false c5
              clear c5
              have H' := Aside0.mk H
              clear H
              have p106 : 0 ≤ (x8_1 : Int) := of_decide_eq_true (by first | (with_reducible assumption) | assumption)
              have q106 : x8_1 < (l0.length : Int) := of_decide_eq_true (by first | (with_reducible assumption) | assumption)
              obtain ⟨ad106, e106, hx106_0, hx106_1, hx106_2⟩ := at_T38 HR0.out x8_1 p106 q106
              cases e106
              replace hx106_0 := (HB.out.cell (World.block_lt_of_cell? w _ hx106_0)).trans hx106_0
              replace hx106_1 := (HB.out.cell (World.block_lt_of_cell? w _ hx106_1)).trans hx106_1
              replace hx106_2 := (HB.out.cell (World.block_lt_of_cell? w _ hx106_2)).trans hx106_2
              replace p106 := eq_true p106
              replace q106 := eq_true q106
              go_wp2_with (first | ((with_reducible refine gate_dst (N := 5) rfl ?_); refine box_event ?hg (N := 5) ?hd (cs := #[.int .i64 0, .int .i64 0, .string (⟨#[]⟩ : ByteArray)]) (t := 38) ?hr ?_; (case hd => rfl); (case hg => rfl); (case hr => first | (go_simp; done) | (go_simp; rfl)); intro gb107 hg w8 hbox hb; have n0_ := Aside0.mk (below_step (by repeat (first | (with_reducible first | exact HB.out | apply below_alloc | apply pw_below_drewN | apply below_drew1) | exact HB.out)) hb); have n1_ := Aside0.mk (hbox); have n2_ := Aside0.mk ((by rw [hg]; exact (below_size (by repeat (first | (with_reducible first | exact HB.out | apply below_alloc | apply pw_below_drewN | apply below_drew1) | exact HB.out))) : w.heap.size ≤ gb107)); have n3_ := Aside0.mk ((by rw [hg]; exact (below_size (by repeat (first | (with_reducible first | exact HB.out | apply below_alloc | apply pw_below_drewN | apply below_drew1) | exact HB.out))) : w.heap.size ≤ gb107)); clear HB; have HB := n0_; have BK107 := n1_; have GW107 := n2_; have GE107 := n3_; clear n0_ n1_ n2_ n3_; clear hb hbox hg; have hcz9_0 : w8.cell? ⟨gb107, 0, none⟩ = some (.int .i64 0) := (blk_cell BK107.out 0).trans rfl; have hcz9_1 : w8.cell? ⟨gb107, 1, none⟩ = some (.int .i64 0) := (blk_cell BK107.out 1).trans rfl; have hcz9_2 : w8.cell? ⟨gb107, 2, none⟩ = some (.string (⟨#[]⟩ : ByteArray)) := (blk_cell BK107.out 2).trans rfl; have hfz9_0 := blk_frozen BK107.out 0; have hfz9_1 := blk_frozen BK107.out 1; have hfz9_2 := blk_frozen BK107.out 2))
              go_roundg k1
              case measure => have := HK1.out; omega
              case rel => exact ⟨(wrap64 (x3_1 + (wrap64 ((((rd_T38 l0 x8_1).f2).size : Int) + 1)))), (wrap64 (x8_1 + 1)), (by first | rfl | (simp; done) | (simp [*]; done)), (by first | rfl | (simp; done) | (simp [*]; done)), H', ⟨by have := HK1.out; omega⟩, ⟨by repeat (first | (with_reducible first | exact HB.out | apply below_alloc | apply pw_below_drewN | apply below_drew1 | refine below_set ?_ GE107.out) | exact HB.out)⟩⟩
          · rw [if_neg c4] at H
            exact absurd H (by simp)
        · rw [if_neg c3] at H
          exact absurd H (by simp)
      · rw [if_neg c2] at H
        have c2b0 : decide (x8_1 < (l0.length : Int)) = false := decide_eq_false c2
        clear c2
        obtain rfl := Option.some.inj H
        go_wp2
        go_ret
        exact ⟨by first | rfl | (simp [errW_none, errW_some] <;> rfl) | (simp [*, errW_none, errW_some] <;> rfl), by repeat (first | (with_reducible first | exact HB.out | apply below_alloc | apply pw_below_drewN | apply below_drew1) | exact HB.out)⟩

/-! ### spec_Inside: function 21 -/
def spec_Inside.f (a0_0 : Int) (a0_1 : Int) (a0_2 : ByteArray) (a1 : Int) : Option (Bool) := if 0 ≤ a0_0 then (if a0_0 ≤ a0_1 then (some (decide (a0_1 ≤ a1))) else (some false)) else (some false)
set_option maxHeartbeats 8000000 in
set_option maxRecDepth 100000 in
theorem spec_Inside.calls (a0_0 : Int) (a0_1 : Int) (a0_2 : ByteArray) (a1 : Int) (r : Bool) (w : World) (h : spec_Inside.f a0_0 a0_1 a0_2 a1 = some r) :
    Calls Tryd.prog 21 #[.agg #[.int .i64 a0_0, .int .i64 a0_1, .string a0_2], .int .i64 a1] w fun e w' => e = .returned (.bool r) ∧ Below w.heap.size w w' := by
  have hu38 := Tryd.underlying38
  have HB := Aside0.mk (Below.refl w.heap.size w)
  have H : (if 0 ≤ a0_0 then (if a0_0 ≤ a0_1 then (some (decide (a0_1 ≤ a1))) else (some false)) else (some false)) = some r := h
  clear h
  by_cases c3 : 0 ≤ a0_0
  · rw [if_pos c3] at H
    have c3b0 : decide (0 ≤ a0_0) = true := decide_eq_true c3
    clear c3
    by_cases c4 : a0_0 ≤ a0_1
    · rw [if_pos c4] at H
      have c4b0 : decide (a0_0 ≤ a0_1) = true := decide_eq_true c4
      clear c4
      obtain rfl := Option.some.inj H
      go_enter Tryd.func21, Tryd.ntmps21
      go_wp2_with (first | ((with_reducible refine gate_dst (N := 2) rfl ?_); refine box_event ?hg (N := 2) ?hd (cs := #[.int .i64 a0_0, .int .i64 a0_1, .string a0_2]) (t := 38) ?hr ?_; (case hd => rfl); (case hg => rfl); (case hr => first | (go_simp; done) | (go_simp; rfl)); intro gb108 hg w5 hbox hb; have n0_ := Aside0.mk (below_step (by repeat (first | (with_reducible first | exact HB.out | apply below_alloc | apply pw_below_drewN | apply below_drew1) | exact HB.out)) hb); have n1_ := Aside0.mk (hbox); have n2_ := Aside0.mk ((by rw [hg]; exact (below_size (by repeat (first | (with_reducible first | exact HB.out | apply below_alloc | apply pw_below_drewN | apply below_drew1) | exact HB.out))) : w.heap.size ≤ gb108)); have n3_ := Aside0.mk ((by rw [hg]; exact (below_size (by repeat (first | (with_reducible first | exact HB.out | apply below_alloc | apply pw_below_drewN | apply below_drew1) | exact HB.out))) : w.heap.size ≤ gb108)); clear HB; have HB := n0_; have BK108 := n1_; have GW108 := n2_; have GE108 := n3_; clear n0_ n1_ n2_ n3_; clear hb hbox hg; have hcz6_0 : w5.cell? ⟨gb108, 0, none⟩ = some (.int .i64 a0_0) := (blk_cell BK108.out 0).trans rfl; have hcz6_1 : w5.cell? ⟨gb108, 1, none⟩ = some (.int .i64 a0_1) := (blk_cell BK108.out 1).trans rfl; have hcz6_2 : w5.cell? ⟨gb108, 2, none⟩ = some (.string a0_2) := (blk_cell BK108.out 2).trans rfl; have hfz6_0 := blk_frozen BK108.out 0; have hfz6_1 := blk_frozen BK108.out 1; have hfz6_2 := blk_frozen BK108.out 2))
      go_ret
      exact ⟨by first | rfl | (simp [errW_none, errW_some] <;> rfl) | (simp [*, errW_none, errW_some] <;> rfl), by repeat (first | (with_reducible first | exact HB.out | apply below_alloc | apply pw_below_drewN | apply below_drew1 | refine below_set ?_ GE108.out) | exact HB.out)⟩
    · rw [if_neg c4] at H
      have c4b0 : decide (a0_0 ≤ a0_1) = false := decide_eq_false c4
      clear c4
      obtain rfl := Option.some.inj H
      go_enter Tryd.func21, Tryd.ntmps21
      go_wp2_with (first | ((with_reducible refine gate_dst (N := 2) rfl ?_); refine box_event ?hg (N := 2) ?hd (cs := #[.int .i64 a0_0, .int .i64 a0_1, .string a0_2]) (t := 38) ?hr ?_; (case hd => rfl); (case hg => rfl); (case hr => first | (go_simp; done) | (go_simp; rfl)); intro gb108 hg w7 hbox hb; have n0_ := Aside0.mk (below_step (by repeat (first | (with_reducible first | exact HB.out | apply below_alloc | apply pw_below_drewN | apply below_drew1) | exact HB.out)) hb); have n1_ := Aside0.mk (hbox); have n2_ := Aside0.mk ((by rw [hg]; exact (below_size (by repeat (first | (with_reducible first | exact HB.out | apply below_alloc | apply pw_below_drewN | apply below_drew1) | exact HB.out))) : w.heap.size ≤ gb108)); have n3_ := Aside0.mk ((by rw [hg]; exact (below_size (by repeat (first | (with_reducible first | exact HB.out | apply below_alloc | apply pw_below_drewN | apply below_drew1) | exact HB.out))) : w.heap.size ≤ gb108)); clear HB; have HB := n0_; have BK108 := n1_; have GW108 := n2_; have GE108 := n3_; clear n0_ n1_ n2_ n3_; clear hb hbox hg; have hcz8_0 : w7.cell? ⟨gb108, 0, none⟩ = some (.int .i64 a0_0) := (blk_cell BK108.out 0).trans rfl; have hcz8_1 : w7.cell? ⟨gb108, 1, none⟩ = some (.int .i64 a0_1) := (blk_cell BK108.out 1).trans rfl; have hcz8_2 : w7.cell? ⟨gb108, 2, none⟩ = some (.string a0_2) := (blk_cell BK108.out 2).trans rfl; have hfz8_0 := blk_frozen BK108.out 0; have hfz8_1 := blk_frozen BK108.out 1; have hfz8_2 := blk_frozen BK108.out 2))
      go_ret
      exact ⟨by first | rfl | (simp [errW_none, errW_some] <;> rfl) | (simp [*, errW_none, errW_some] <;> rfl), by repeat (first | (with_reducible first | exact HB.out | apply below_alloc | apply pw_below_drewN | apply below_drew1 | refine below_set ?_ GE108.out) | exact HB.out)⟩
  · rw [if_neg c3] at H
    have c3b0 : decide (0 ≤ a0_0) = false := decide_eq_false c3
    clear c3
    obtain rfl := Option.some.inj H
    go_enter Tryd.func21, Tryd.ntmps21
    go_wp2_with (first | ((with_reducible refine gate_dst (N := 2) rfl ?_); refine box_event ?hg (N := 2) ?hd (cs := #[.int .i64 a0_0, .int .i64 a0_1, .string a0_2]) (t := 38) ?hr ?_; (case hd => rfl); (case hg => rfl); (case hr => first | (go_simp; done) | (go_simp; rfl)); intro gb108 hg w9 hbox hb; have n0_ := Aside0.mk (below_step (by repeat (first | (with_reducible first | exact HB.out | apply below_alloc | apply pw_below_drewN | apply below_drew1) | exact HB.out)) hb); have n1_ := Aside0.mk (hbox); have n2_ := Aside0.mk ((by rw [hg]; exact (below_size (by repeat (first | (with_reducible first | exact HB.out | apply below_alloc | apply pw_below_drewN | apply below_drew1) | exact HB.out))) : w.heap.size ≤ gb108)); have n3_ := Aside0.mk ((by rw [hg]; exact (below_size (by repeat (first | (with_reducible first | exact HB.out | apply below_alloc | apply pw_below_drewN | apply below_drew1) | exact HB.out))) : w.heap.size ≤ gb108)); clear HB; have HB := n0_; have BK108 := n1_; have GW108 := n2_; have GE108 := n3_; clear n0_ n1_ n2_ n3_; clear hb hbox hg; have hcz10_0 : w9.cell? ⟨gb108, 0, none⟩ = some (.int .i64 a0_0) := (blk_cell BK108.out 0).trans rfl; have hcz10_1 : w9.cell? ⟨gb108, 1, none⟩ = some (.int .i64 a0_1) := (blk_cell BK108.out 1).trans rfl; have hcz10_2 : w9.cell? ⟨gb108, 2, none⟩ = some (.string a0_2) := (blk_cell BK108.out 2).trans rfl; have hfz10_0 := blk_frozen BK108.out 0; have hfz10_1 := blk_frozen BK108.out 1; have hfz10_2 := blk_frozen BK108.out 2))
    go_ret
    exact ⟨by first | rfl | (simp [errW_none, errW_some] <;> rfl) | (simp [*, errW_none, errW_some] <;> rfl), by repeat (first | (with_reducible first | exact HB.out | apply below_alloc | apply pw_below_drewN | apply below_drew1 | refine below_set ?_ GE108.out) | exact HB.out)⟩

/-! ### spec_Overlap: function 22 -/
def spec_Overlap.f (a0_0 : Int) (a0_1 : Int) (a0_2 : ByteArray) (a1_0 : Int) (a1_1 : Int) (a1_2 : ByteArray) : Option (Bool) := if a0_0 < a1_1 then (some (decide (a1_0 < a0_1))) else (some false)
set_option maxHeartbeats 8000000 in
set_option maxRecDepth 100000 in
theorem spec_Overlap.calls (a0_0 : Int) (a0_1 : Int) (a0_2 : ByteArray) (a1_0 : Int) (a1_1 : Int) (a1_2 : ByteArray) (r : Bool) (w : World) (h : spec_Overlap.f a0_0 a0_1 a0_2 a1_0 a1_1 a1_2 = some r) :
    Calls Tryd.prog 22 #[.agg #[.int .i64 a0_0, .int .i64 a0_1, .string a0_2], .agg #[.int .i64 a1_0, .int .i64 a1_1, .string a1_2]] w fun e w' => e = .returned (.bool r) ∧ Below w.heap.size w w' := by
  have hu38 := Tryd.underlying38
  have HB := Aside0.mk (Below.refl w.heap.size w)
  have H : (if a0_0 < a1_1 then (some (decide (a1_0 < a0_1))) else (some false)) = some r := h
  clear h
  by_cases c3 : a0_0 < a1_1
  · rw [if_pos c3] at H
    have c3b0 : decide (a0_0 < a1_1) = true := decide_eq_true c3
    clear c3
    obtain rfl := Option.some.inj H
    go_enter Tryd.func22, Tryd.ntmps22
    go_wp2_with (first | ((with_reducible refine gate_dst (N := 2) rfl ?_); refine box_event ?hg (N := 2) ?hd (cs := #[.int .i64 a0_0, .int .i64 a0_1, .string a0_2]) (t := 38) ?hr ?_; (case hd => rfl); (case hg => rfl); (case hr => first | (go_simp; done) | (go_simp; rfl)); intro gb109 hg w4 hbox hb; have n0_ := Aside0.mk (below_step (by repeat (first | (with_reducible first | exact HB.out | apply below_alloc | apply pw_below_drewN | apply below_drew1) | exact HB.out)) hb); have n1_ := Aside0.mk (hbox); have n2_ := Aside0.mk ((by rw [hg]; exact (below_size (by repeat (first | (with_reducible first | exact HB.out | apply below_alloc | apply pw_below_drewN | apply below_drew1) | exact HB.out))) : w.heap.size ≤ gb109)); have n3_ := Aside0.mk ((by rw [hg]; exact (below_size (by repeat (first | (with_reducible first | exact HB.out | apply below_alloc | apply pw_below_drewN | apply below_drew1) | exact HB.out))) : w.heap.size ≤ gb109)); clear HB; have HB := n0_; have BK109 := n1_; have GW109 := n2_; have GE109 := n3_; clear n0_ n1_ n2_ n3_; clear hb hbox hg) | ((with_reducible refine gate_dst (N := 3) rfl ?_); refine box_event ?hg (N := 3) ?hd (cs := #[.int .i64 a1_0, .int .i64 a1_1, .string a1_2]) (t := 38) ?hr ?_; (case hd => rfl); (case hg => rfl); (case hr => first | (go_simp; done) | (go_simp; rfl)); intro gb110 hg w5 hbox hb; have n0_ := Aside0.mk (blk_below (g := gb109) (o := .cells #[.int .i64 a0_0, .int .i64 a0_1, .string a0_2] 38 (0, 0)) (by (with_reducible repeat (first | refine blk_drewN ?_ _ | refine blk_drew ?_ | refine blk_alloc ?_ _)); exact BK109.out) hb); have n1_ := Aside0.mk (below_step (by repeat (first | (with_reducible first | exact HB.out | apply below_alloc | apply pw_below_drewN | apply below_drew1 | refine below_set ?_ GE109.out) | exact HB.out)) hb); have n2_ := Aside0.mk (hbox); have n3_ := Aside0.mk ((by rw [hg]; exact (below_size (by repeat (first | (with_reducible first | exact HB.out | apply below_alloc | apply pw_below_drewN | apply below_drew1 | refine below_set ?_ GE109.out) | exact HB.out))) : w.heap.size ≤ gb110)); have n4_ := Aside0.mk ((by rw [hg]; exact (below_size (by repeat (first | (with_reducible first | exact HB.out | apply below_alloc | apply pw_below_drewN | apply below_drew1 | refine below_set ?_ GE109.out) | exact HB.out))) : w.heap.size ≤ gb110)); have n5_ := Aside0.mk ((by rw [hg]; exact Nat.ne_of_lt (blk_lt (g := gb109) (o := .cells #[.int .i64 a0_0, .int .i64 a0_1, .string a0_2] 38 (0, 0)) (by (with_reducible repeat (first | refine blk_drewN ?_ _ | refine blk_drew ?_ | refine blk_alloc ?_ _)); exact BK109.out)) : gb109 ≠ gb110)); have n6_ := Aside0.mk ((by rw [hg]; exact Nat.ne_of_gt (blk_lt (g := gb109) (o := .cells #[.int .i64 a0_0, .int .i64 a0_1, .string a0_2] 38 (0, 0)) (by (with_reducible repeat (first | refine blk_drewN ?_ _ | refine blk_drew ?_ | refine blk_alloc ?_ _)); exact BK109.out)) : gb110 ≠ gb109)); clear BK109; clear HB; have BK109 := n0_; have HB := n1_; have BK110 := n2_; have GW110 := n3_; have GE110 := n4_; have NB109_110 := n5_; have NB110_109 := n6_; clear n0_ n1_ n2_ n3_ n4_ n5_ n6_; clear hb hbox hg; have hnb6 := NB109_110.out; have hnc6 := NB110_109.out; have hcz7_0 : w5.cell? ⟨gb109, 0, none⟩ = some (.int .i64 a0_0) := (blk_cell BK109.out 0).trans rfl; have hcz7_1 : w5.cell? ⟨gb109, 1, none⟩ = some (.int .i64 a0_1) := (blk_cell BK109.out 1).trans rfl; have hcz7_2 : w5.cell? ⟨gb109, 2, none⟩ = some (.string a0_2) := (blk_cell BK109.out 2).trans rfl; have hfz7_0 := blk_frozen BK109.out 0; have hfz7_1 := blk_frozen BK109.out 1; have hfz7_2 := blk_frozen BK109.out 2; have hcz8_0 : w5.cell? ⟨gb110, 0, none⟩ = some (.int .i64 a1_0) := (blk_cell BK110.out 0).trans rfl; have hcz8_1 : w5.cell? ⟨gb110, 1, none⟩ = some (.int .i64 a1_1) := (blk_cell BK110.out 1).trans rfl; have hcz8_2 : w5.cell? ⟨gb110, 2, none⟩ = some (.string a1_2) := (blk_cell BK110.out 2).trans rfl; have hfz8_0 := blk_frozen BK110.out 0; have hfz8_1 := blk_frozen BK110.out 1; have hfz8_2 := blk_frozen BK110.out 2))
    go_ret
    exact ⟨by first | rfl | (simp [errW_none, errW_some] <;> rfl) | (simp [*, errW_none, errW_some] <;> rfl), by repeat (first | (with_reducible first | exact HB.out | apply below_alloc | apply pw_below_drewN | apply below_drew1 | refine below_set ?_ GE109.out | refine below_set ?_ GE110.out) | exact HB.out)⟩
  · rw [if_neg c3] at H
    have c3b0 : decide (a0_0 < a1_1) = false := decide_eq_false c3
    clear c3
    obtain rfl := Option.some.inj H
    go_enter Tryd.func22, Tryd.ntmps22
    go_wp2_with (first | ((with_reducible refine gate_dst (N := 2) rfl ?_); refine box_event ?hg (N := 2) ?hd (cs := #[.int .i64 a0_0, .int .i64 a0_1, .string a0_2]) (t := 38) ?hr ?_; (case hd => rfl); (case hg => rfl); (case hr => first | (go_simp; done) | (go_simp; rfl)); intro gb109 hg w9 hbox hb; have n0_ := Aside0.mk (below_step (by repeat (first | (with_reducible first | exact HB.out | apply below_alloc | apply pw_below_drewN | apply below_drew1) | exact HB.out)) hb); have n1_ := Aside0.mk (hbox); have n2_ := Aside0.mk ((by rw [hg]; exact (below_size (by repeat (first | (with_reducible first | exact HB.out | apply below_alloc | apply pw_below_drewN | apply below_drew1) | exact HB.out))) : w.heap.size ≤ gb109)); have n3_ := Aside0.mk ((by rw [hg]; exact (below_size (by repeat (first | (with_reducible first | exact HB.out | apply below_alloc | apply pw_below_drewN | apply below_drew1) | exact HB.out))) : w.heap.size ≤ gb109)); clear HB; have HB := n0_; have BK109 := n1_; have GW109 := n2_; have GE109 := n3_; clear n0_ n1_ n2_ n3_; clear hb hbox hg) | ((with_reducible refine gate_dst (N := 3) rfl ?_); refine box_event ?hg (N := 3) ?hd (cs := #[.int .i64 a1_0, .int .i64 a1_1, .string a1_2]) (t := 38) ?hr ?_; (case hd => rfl); (case hg => rfl); (case hr => first | (go_simp; done) | (go_simp; rfl)); intro gb110 hg w10 hbox hb; have n0_ := Aside0.mk (blk_below (g := gb109) (o := .cells #[.int .i64 a0_0, .int .i64 a0_1, .string a0_2] 38 (0, 0)) (by (with_reducible repeat (first | refine blk_drewN ?_ _ | refine blk_drew ?_ | refine blk_alloc ?_ _)); exact BK109.out) hb); have n1_ := Aside0.mk (below_step (by repeat (first | (with_reducible first | exact HB.out | apply below_alloc | apply pw_below_drewN | apply below_drew1 | refine below_set ?_ GE109.out) | exact HB.out)) hb); have n2_ := Aside0.mk (hbox); have n3_ := Aside0.mk ((by rw [hg]; exact (below_size (by repeat (first | (with_reducible first | exact HB.out | apply below_alloc | apply pw_below_drewN | apply below_drew1 | refine below_set ?_ GE109.out) | exact HB.out))) : w.heap.size ≤ gb110)); have n4_ := Aside0.mk ((by rw [hg]; exact (below_size (by repeat (first | (with_reducible first | exact HB.out | apply below_alloc | apply pw_below_drewN | apply below_drew1 | refine below_set ?_ GE109.out) | exact HB.out))) : w.heap.size ≤ gb110)); have n5_ := Aside0.mk ((by rw [hg]; exact Nat.ne_of_lt (blk_lt (g := gb109) (o := .cells #[.int .i64 a0_0, .int .i64 a0_1, .string a0_2] 38 (0, 0)) (by (with_reducible repeat (first | refine blk_drewN ?_ _ | refine blk_drew ?_ | refine blk_alloc ?_ _)); exact BK109.out)) : gb109 ≠ gb110)); have n6_ := Aside0.mk ((by rw [hg]; exact Nat.ne_of_gt (blk_lt (g := gb109) (o := .cells #[.int .i64 a0_0, .int .i64 a0_1, .string a0_2] 38 (0, 0)) (by (with_reducible repeat (first | refine blk_drewN ?_ _ | refine blk_drew ?_ | refine blk_alloc ?_ _)); exact BK109.out)) : gb110 ≠ gb109)); clear BK109; clear HB; have BK109 := n0_; have HB := n1_; have BK110 := n2_; have GW110 := n3_; have GE110 := n4_; have NB109_110 := n5_; have NB110_109 := n6_; clear n0_ n1_ n2_ n3_ n4_ n5_ n6_; clear hb hbox hg; have hnb11 := NB109_110.out; have hnc11 := NB110_109.out; have hcz12_0 : w10.cell? ⟨gb109, 0, none⟩ = some (.int .i64 a0_0) := (blk_cell BK109.out 0).trans rfl; have hcz12_1 : w10.cell? ⟨gb109, 1, none⟩ = some (.int .i64 a0_1) := (blk_cell BK109.out 1).trans rfl; have hcz12_2 : w10.cell? ⟨gb109, 2, none⟩ = some (.string a0_2) := (blk_cell BK109.out 2).trans rfl; have hfz12_0 := blk_frozen BK109.out 0; have hfz12_1 := blk_frozen BK109.out 1; have hfz12_2 := blk_frozen BK109.out 2; have hcz13_0 : w10.cell? ⟨gb110, 0, none⟩ = some (.int .i64 a1_0) := (blk_cell BK110.out 0).trans rfl; have hcz13_1 : w10.cell? ⟨gb110, 1, none⟩ = some (.int .i64 a1_1) := (blk_cell BK110.out 1).trans rfl; have hcz13_2 : w10.cell? ⟨gb110, 2, none⟩ = some (.string a1_2) := (blk_cell BK110.out 2).trans rfl; have hfz13_0 := blk_frozen BK110.out 0; have hfz13_1 := blk_frozen BK110.out 1; have hfz13_2 := blk_frozen BK110.out 2))
    go_ret
    exact ⟨by first | rfl | (simp [errW_none, errW_some] <;> rfl) | (simp [*, errW_none, errW_some] <;> rfl), by repeat (first | (with_reducible first | exact HB.out | apply below_alloc | apply pw_below_drewN | apply below_drew1 | refine below_set ?_ GE109.out | refine below_set ?_ GE110.out) | exact HB.out)⟩

/-! ### spec_ToldOf: function 14 -/
mutual
def spec_ToldOf.l0 : Nat → List (S38) → Int → Int → List (S38) → Int → Int → Option (Int)
  | 0, _, _, _, _, _, _ => none
  | k + 1, x0, x1, x5, x10, x11, x12 => if x12 < x11 then (if 0 ≤ x12 then (if x12 < (x10.length : Int) then ((spec_Inside.f ((rd_T38 x10 x12).f0) ((rd_T38 x10 x12).f1) ((rd_T38 x10 x12).f2) x1).bind fun t113 => (if t113 = true then (if x12 ≤ (x0.length : Int) then ((some (x0.take (x12 : Int).toNat : List (S38))).bind fun y114 => (spec_ToldOf.l1 k x0 x1 x5 x10 x11 x12 y114 (y114.length : Int) 0 ((rd_T38 x10 x12).f0) ((rd_T38 x10 x12).f1) ((rd_T38 x10 x12).f2))) else (none)) else (some 1))) else (none)) else (none)) else (some x5)
def spec_ToldOf.l1 : Nat → List (S38) → Int → Int → List (S38) → Int → Int → List (S38) → Int → Int → Int → Int → ByteArray → Option (Int)
  | 0, _, _, _, _, _, _, _, _, _, _, _, _ => none
  | k + 1, x0, x1, x5, x10, x11, x12, x23, x24, x25, x113000, x113001, x113002 => if x25 < x24 then (if 0 ≤ x25 then (if x25 < (x23.length : Int) then ((spec_Overlap.f ((rd_T38 x23 x25).f0) ((rd_T38 x23 x25).f1) ((rd_T38 x23 x25).f2) x113000 x113001 x113002).bind fun t120 => (if t120 = true then (some 1) else (if ((rd_T38 x23 x25).f0) = x113000 then (if ((rd_T38 x23 x25).f1) > x113001 then (spec_ToldOf.l1 k x0 x1 2 x10 x11 x12 x23 x24 (wrap64 (x25 + 1)) x113000 x113001 x113002) else (spec_ToldOf.l1 k x0 x1 x5 x10 x11 x12 x23 x24 (wrap64 (x25 + 1)) x113000 x113001 x113002)) else (spec_ToldOf.l1 k x0 x1 x5 x10 x11 x12 x23 x24 (wrap64 (x25 + 1)) x113000 x113001 x113002)))) else (none)) else (none)) else (spec_ToldOf.l0 k x0 x1 x5 x10 x11 (wrap64 (x12 + 1)))
end
def spec_ToldOf.f (k : Nat) (l0 : List (S38)) (a1 : Int) : Option (Int) := spec_ToldOf.l0 k l0 a1 0 l0 (l0.length : Int) 0
theorem spec_ToldOf.mono_l : ∀ k, (∀ y0 y1 y2 y3 y4 y5, LeO (spec_ToldOf.l0 k y0 y1 y2 y3 y4 y5) (spec_ToldOf.l0 (k + 1) y0 y1 y2 y3 y4 y5)) ∧ (∀ y0 y1 y2 y3 y4 y5 y6 y7 y8 y9 y10 y11, LeO (spec_ToldOf.l1 k y0 y1 y2 y3 y4 y5 y6 y7 y8 y9 y10 y11) (spec_ToldOf.l1 (k + 1) y0 y1 y2 y3 y4 y5 y6 y7 y8 y9 y10 y11))
  | 0 => ⟨fun _ _ _ _ _ _ r h => by simp [spec_ToldOf.l0] at h, fun _ _ _ _ _ _ _ _ _ _ _ _ r h => by simp [spec_ToldOf.l1] at h⟩
  | k + 1 => by
    obtain ⟨ih0, ih1⟩ := spec_ToldOf.mono_l k
    refine ⟨?_, ?_⟩
    · intro y0 y1 y2 y3 y4 y5
      unfold spec_ToldOf.l0
      repeat' first
      | (with_reducible exact ih0 _ _ _ _ _ _)
      | (with_reducible exact ih1 _ _ _ _ _ _ _ _ _ _ _ _)
      | (with_reducible exact LeO.refl _)
      | (with_reducible exact LeO.none _)
      | (with_reducible refine LeO.ite ?_ ?_)
      | (with_reducible refine LeO.bind ?_ (fun _ => ?_))
      | exact ih0 _ _ _ _ _ _
      | exact ih1 _ _ _ _ _ _ _ _ _ _ _ _
      | exact LeO.none _
      | refine LeO.ite ?_ ?_
      | refine LeO.bind ?_ (fun _ => ?_)
    · intro y0 y1 y2 y3 y4 y5 y6 y7 y8 y9 y10 y11
      unfold spec_ToldOf.l1
      repeat' first
      | (with_reducible exact ih0 _ _ _ _ _ _)
      | (with_reducible exact ih1 _ _ _ _ _ _ _ _ _ _ _ _)
      | (with_reducible exact LeO.refl _)
      | (with_reducible exact LeO.none _)
      | (with_reducible refine LeO.ite ?_ ?_)
      | (with_reducible refine LeO.bind ?_ (fun _ => ?_))
      | exact ih0 _ _ _ _ _ _
      | exact ih1 _ _ _ _ _ _ _ _ _ _ _ _
      | exact LeO.none _
      | refine LeO.ite ?_ ?_
      | refine LeO.bind ?_ (fun _ => ?_)
theorem spec_ToldOf.mono : ∀ a0 a1 k, LeO (spec_ToldOf.f k a0 a1) (spec_ToldOf.f (k + 1) a0 a1) := by
  intro a0 a1 k
  obtain ⟨ih0, ih1⟩ := spec_ToldOf.mono_l k
  unfold spec_ToldOf.f
  repeat' first
      | (with_reducible exact ih0 _ _ _ _ _ _)
      | (with_reducible exact ih1 _ _ _ _ _ _ _ _ _ _ _ _)
      | (with_reducible exact LeO.refl _)
      | (with_reducible exact LeO.none _)
      | (with_reducible refine LeO.ite ?_ ?_)
      | (with_reducible refine LeO.bind ?_ (fun _ => ?_))
      | exact ih0 _ _ _ _ _ _
      | exact ih1 _ _ _ _ _ _ _ _ _ _ _ _
      | exact LeO.none _
      | refine LeO.ite ?_ ?_
      | refine LeO.bind ?_ (fun _ => ?_)
set_option maxHeartbeats 8000000 in
set_option maxRecDepth 100000 in
theorem spec_ToldOf.calls (k : Nat) (A0 : Option Addr) (c0 : Nat) (l0 : List (S38)) (a1 : Int) (r : Int) (w : World) (hr0 : Kd.C k38 w A0 l0.length l0) (hc0 : l0.length ≤ c0) (h : spec_ToldOf.f k l0 a1 = some r) :
    Calls Tryd.prog 14 #[.slice A0 l0.length c0, .int .i64 a1] w fun e w' => e = .returned (.int .i64 r) ∧ Below w.heap.size w w' := by
  have hu38 := Tryd.underlying38
  have HR0 := Aside0.mk hr0
  have HC0 := Aside0.mk hc0
  clear hr0 hc0
  have HB := Aside0.mk (Below.refl w.heap.size w)
  have H : (spec_ToldOf.l0 k l0 a1 0 l0 (l0.length : Int) 0) = some r := h
  clear h
  have H' := Aside0.mk H
  clear H
  go_enter Tryd.func14, Tryd.ntmps14
  go_wp2
  go_loopg [5, 12] k (fun kq v5 v12 w' => ∃ (x5_1 : Int) (x12_1 : Int), v5 = .int .i64 x5_1 ∧ v12 = .int .i64 x12_1 ∧ Aside0 (spec_ToldOf.l0 kq l0 a1 x5_1 l0 (l0.length : Int) x12_1 = some r) ∧ Aside0 (kq ≤ k) ∧ Aside0 (Below w.heap.size w w'))
  case atStart => exact ⟨(0), (0), (by first | rfl | (simp; done) | (simp [*]; done)), (by first | rfl | (simp; done) | (simp [*]; done)), H', ⟨Nat.le_refl _⟩, ⟨by repeat (first | (with_reducible first | exact HB.out | apply below_alloc | apply pw_below_drewN | apply below_drew1) | exact HB.out)⟩⟩
  case round =>
    clear H'
    try clear c1
    try clear p2
    obtain ⟨x5_1, x12_1, rfl, rfl, HA, HK1, HB⟩ := hrel
    cases gk with
    | zero => exact absurd HA.out (by simp [spec_ToldOf.l0])
    | succ k1 =>
      have H := HA.out
      clear HA
      simp only [spec_ToldOf.l0] at H
      by_cases c3 : x12_1 < (l0.length : Int)
      · rw [if_pos c3] at H
        have c3b0 : decide (x12_1 < (l0.length : Int)) = true := decide_eq_true c3
        clear c3
        by_cases c4 : 0 ≤ x12_1
        · rw [if_pos c4] at H
          have c4b0 : decide (0 ≤ x12_1) = true := decide_eq_true c4
          clear c4
          by_cases c5 : x12_1 < (l0.length : Int)
          · rw [if_pos c5] at H
            have c5b0 : decide (x12_1 < (l0.length : Int)) = true := decide_eq_true c5
            clear c5
            replace H := Option.bind_eq_some_iff.mp H
            obtain ⟨t113, A60, H⟩ := H
            replace H : (if t113 = true then (if x12_1 ≤ (l0.length : Int) then ((some (l0.take (x12_1 : Int).toNat : List (S38))).bind fun y114 => (spec_ToldOf.l1 k1 l0 a1 x5_1 l0 (l0.length : Int) x12_1 y114 (y114.length : Int) 0 ((rd_T38 l0 x12_1).f0) ((rd_T38 l0 x12_1).f1) ((rd_T38 l0 x12_1).f2))) else (none)) else (some 1)) = some r := H
            have A6 := Aside0.mk A60
            clear A60
            by_cases c7 : t113 = true
            · subst c7
              have H1 : (if x12_1 ≤ (l0.length : Int) then ((some (l0.take (x12_1 : Int).toNat : List (S38))).bind fun y114 => (spec_ToldOf.l1 k1 l0 a1 x5_1 l0 (l0.length : Int) x12_1 y114 (y114.length : Int) 0 ((rd_T38 l0 x12_1).f0) ((rd_T38 l0 x12_1).f1) ((rd_T38 l0 x12_1).f2))) else (none)) = some r := by rw [if_pos rfl] at H; exact H
              clear H
              have H := H1
              clear H1
              have c8b0 := eq_true (of_decide_eq_true (by first | (with_reducible assumption) | assumption) : 0 ≤ x12_1)
              by_cases c9 : x12_1 ≤ (l0.length : Int)
              · rw [if_pos c9] at H
                have c9b0 := eq_true c9
                have c9b1 : decide (x12_1 ≤ (l0.length : Int)) = true := decide_eq_true c9
                clear c9
                obtain ⟨y114, hy114⟩ : ∃ y_ : List (S38), y_ = (l0.take (x12_1 : Int).toNat) := ⟨_, rfl⟩
                replace H : (spec_ToldOf.l1 k1 l0 a1 x5_1 l0 (l0.length : Int) x12_1 y114 (y114.length : Int) 0 ((rd_T38 l0 x12_1).f0) ((rd_T38 l0 x12_1).f1) ((rd_T38 l0 x12_1).f2)) = some r := by first | (rw [hy114]; with_reducible exact H) | (have H2_ := (Option.bind_some _ _).symm.trans H; rw [hy114]; with_reducible exact H2_) | (have H2_ := (Option.bind_some _ _).symm.trans H; with_reducible exact H2_) | with_reducible exact H | (rw [hy114]; exact H) | exact H
                have Ny114 := Aside0.mk hy114
                clear hy114
                have H' := Aside0.mk H
                clear H
                have p111 : 0 ≤ (x12_1 : Int) := of_decide_eq_true (by first | (with_reducible assumption) | assumption)
                have q111 : x12_1 < (l0.length : Int) := of_decide_eq_true (by first | (with_reducible assumption) | assumption)
                obtain ⟨ad111, e111, hx111_0, hx111_1, hx111_2⟩ := at_T38 HR0.out x12_1 p111 q111
                cases e111
                replace hx111_0 := (HB.out.cell (World.block_lt_of_cell? w _ hx111_0)).trans hx111_0
                replace hx111_1 := (HB.out.cell (World.block_lt_of_cell? w _ hx111_1)).trans hx111_1
                replace hx111_2 := (HB.out.cell (World.block_lt_of_cell? w _ hx111_2)).trans hx111_2
                replace p111 := eq_true p111
                replace q111 := eq_true q111
                go_wp2_with (first | ((with_reducible refine gate_dst (N := 7) rfl ?_); refine box_event ?hg (N := 7) ?hd (cs := #[.int .i64 0, .int .i64 0, .string (⟨#[]⟩ : ByteArray)]) (t := 38) ?hr ?_; (case hd => rfl); (case hg => rfl); (case hr => first | (go_simp; done) | (go_simp; rfl)); intro gb112 hg w10 hbox hb; have n0_ := Aside0.mk (below_step (by repeat (first | (with_reducible first | exact HB.out | apply below_alloc | apply pw_below_drewN | apply below_drew1) | exact HB.out)) hb); have n1_ := Aside0.mk (hbox); have n2_ := Aside0.mk ((by rw [hg]; exact (below_size (by repeat (first | (with_reducible first | exact HB.out | apply below_alloc | apply pw_below_drewN | apply below_drew1) | exact HB.out))) : w.heap.size ≤ gb112)); have n3_ := Aside0.mk ((by rw [hg]; exact (below_size (by repeat (first | (with_reducible first | exact HB.out | apply below_alloc | apply pw_below_drewN | apply below_drew1) | exact HB.out))) : w.heap.size ≤ gb112)); clear HB; have HB := n0_; have BK112 := n1_; have GW112 := n2_; have GE112 := n3_; clear n0_ n1_ n2_ n3_; clear hb hbox hg; have hcz11_0 : w10.cell? ⟨gb112, 0, none⟩ = some (.int .i64 0) := (blk_cell BK112.out 0).trans rfl; have hcz11_1 : w10.cell? ⟨gb112, 1, none⟩ = some (.int .i64 0) := (blk_cell BK112.out 1).trans rfl; have hcz11_2 : w10.cell? ⟨gb112, 2, none⟩ = some (.string (⟨#[]⟩ : ByteArray)) := (blk_cell BK112.out 2).trans rfl; have hfz11_0 := blk_frozen BK112.out 0; have hfz11_1 := blk_frozen BK112.out 1; have hfz11_2 := blk_frozen BK112.out 2) | ((with_reducible refine gate_callee (f := 21) rfl ?_); refine goesL_ (some 19) rfl rfl Tryd.func21 (by kernel_rfl) rfl #[.agg #[.int .i64 ((rd_T38 l0 x12_1).f0), .int .i64 ((rd_T38 l0 x12_1).f1), .string ((rd_T38 l0 x12_1).f2)], .int .i64 a1] rfl (by (try simp only [List.map_toArray, List.map_cons, List.map_nil]); first | done | rfl | (simp only [List.length_drop, List.length_take]; rfl)) ?_; (with_reducible refine (spec_Inside.calls ((rd_T38 l0 x12_1).f0) ((rd_T38 l0 x12_1).f1) ((rd_T38 l0 x12_1).f2) a1 true _ A6.out).mono ?_); rintro e w12 ⟨rfl, hb⟩; refine ⟨_, rfl, ?_⟩; have n0_ := Aside0.mk (blk_below (g := gb112) (o := .cells #[.int .i64 ((rd_T38 l0 x12_1).f0), .int .i64 ((rd_T38 l0 x12_1).f1), .string ((rd_T38 l0 x12_1).f2)] 38 (0, 0)) (by (with_reducible repeat (first | refine blk_drewN ?_ _ | refine blk_drew ?_ | refine blk_alloc ?_ _)); refine blk_put (cs := #[.int .i64 ((rd_T38 l0 x12_1).f0), .int .i64 ((rd_T38 l0 x12_1).f1), .string (⟨#[]⟩ : ByteArray)]) ?_ 2 _ rfl; (with_reducible repeat (first | refine blk_drewN ?_ _ | refine blk_drew ?_ | refine blk_alloc ?_ _)); refine blk_put (cs := #[.int .i64 ((rd_T38 l0 x12_1).f0), .int .i64 0, .string (⟨#[]⟩ : ByteArray)]) ?_ 1 _ rfl; (with_reducible repeat (first | refine blk_drewN ?_ _ | refine blk_drew ?_ | refine blk_alloc ?_ _)); refine blk_put (cs := #[.int .i64 0, .int .i64 0, .string (⟨#[]⟩ : ByteArray)]) ?_ 0 _ rfl; (with_reducible repeat (first | refine blk_drewN ?_ _ | refine blk_drew ?_ | refine blk_alloc ?_ _)); exact BK112.out) hb); have n1_ := Aside0.mk (below_step (by repeat (first | (with_reducible first | exact HB.out | apply below_alloc | apply pw_below_drewN | apply below_drew1 | refine below_set ?_ GE112.out) | exact HB.out)) hb); clear BK112; clear HB; have BK112 := n0_; have HB := n1_; clear n0_ n1_; (try clear hb); (try clear hb2); (try clear hk); (try clear hi); have q13 : (x12_1 : Int) ≤ ((l0.length : Int) : Int) := of_decide_eq_true (by first | (with_reducible assumption) | assumption); obtain ⟨i013, hi013, _, hsz13, _⟩ := info_parts info38; have hroom13 : l0.length ≤ c0 := HC0.out; have hC13 : Kd.C k38 _ (some ad111) l0.length l0 := HR0.out; have hcut13 := cut_to (P := Tryd.prog) 22 38 .i64 Tryd.underlying22 hi013 (some ad111) l0.length c0 x12_1 (of_decide_eq_true (by first | (with_reducible assumption) | assumption)) q13 hroom13; have hr13 := Kd.C_take (m := (x12_1 : Int).toNat) hC13 (by omega); have hy13 : y114.length = (x12_1 : Int).toNat := (by rw [Ny114.out, List.length_take]; omega); rw [← Ny114.out] at hr13; rw [← hy13] at hcut13; have HR117 := Aside0.mk hr13; have HC117 := Aside0.mk (show y114.length ≤ c0 from by omega); clear hr13 hC13 hroom13 hi013 hsz13; have KY13 := Aside0.mk hy13; clear hy13; replace q13 := eq_true q13))
                go_loopg [5, 25] k1 (fun kq v5 v25 w' => ∃ (x5_2 : Int) (x25_2 : Int), v5 = .int .i64 x5_2 ∧ v25 = .int .i64 x25_2 ∧ Aside0 (spec_ToldOf.l1 kq l0 a1 x5_2 l0 (l0.length : Int) x12_1 y114 (y114.length : Int) x25_2 ((rd_T38 l0 x12_1).f0) ((rd_T38 l0 x12_1).f1) ((rd_T38 l0 x12_1).f2) = some r) ∧ Aside0 (kq ≤ k1) ∧ Aside0 (w'.heap[gb112]? = some (.cells #[.int .i64 ((rd_T38 l0 x12_1).f0), .int .i64 ((rd_T38 l0 x12_1).f1), .string ((rd_T38 l0 x12_1).f2)] 38 (0, 0))) ∧ Aside0 (Below w.heap.size w w'))
                case atStart => exact ⟨(x5_1), (0), (by first | rfl | (simp; done) | (simp [*]; done)), (by first | rfl | (simp; done) | (simp [*]; done)), H', ⟨Nat.le_refl _⟩, ⟨by (with_reducible repeat (first | refine blk_drewN ?_ _ | refine blk_drew ?_ | refine blk_alloc ?_ _)); exact BK112.out⟩, ⟨by repeat (first | (with_reducible first | exact HB.out | apply below_alloc | apply pw_below_drewN | apply below_drew1 | refine below_set ?_ GE112.out) | exact HB.out)⟩⟩
                case round =>
                  clear H'
                  try clear c1
                  try clear p1
                  try clear q1
                  try clear hx1
                  try clear c2
                  try clear p2
                  try clear c3
                  try clear c3b0
                  try clear c4
                  try clear c4b0
                  try clear c5
                  try clear c5b0
                  try clear c7
                  try clear c8
                  try clear c8b0
                  try clear c9
                  try clear c9b0
                  try clear c9b1
                  try clear p11
                  try clear q11
                  try clear hx11
                  try clear q13
                  try clear hcz11_0
                  try clear hcz11_1
                  try clear hcz11_2
                  try clear hfz11_0
                  try clear hfz11_1
                  try clear hfz11_2
                  try clear hx111_0
                  try clear hx111_1
                  try clear hx111_2
                  try clear p111
                  try clear p2
                  try clear q111
                  try clear q13
                  obtain ⟨x5_2, x25_2, rfl, rfl, HA, HK2, BK112, HB⟩ := hrel
                  cases gk with
                  | zero => exact absurd HA.out (by simp [spec_ToldOf.l1])
                  | succ k2 =>
                    have H := HA.out
                    clear HA
                    simp only [spec_ToldOf.l1] at H
                    by_cases c14 : x25_2 < (y114.length : Int)
                    · rw [if_pos c14] at H
                      have c14b0 : decide (x25_2 < (y114.length : Int)) = true := decide_eq_true c14
                      clear c14
                      by_cases c15 : 0 ≤ x25_2
                      · rw [if_pos c15] at H
                        have c15b0 : decide (0 ≤ x25_2) = true := decide_eq_true c15
                        clear c15
                        by_cases c16 : x25_2 < (y114.length : Int)
                        · rw [if_pos c16] at H
                          have c16b0 : decide (x25_2 < (y114.length : Int)) = true := decide_eq_true c16
                          clear c16
                          replace H := Option.bind_eq_some_iff.mp H
                          obtain ⟨t120, A170, H⟩ := H
                          replace H : (if t120 = true then (some 1) else (if ((rd_T38 y114 x25_2).f0) = ((rd_T38 l0 x12_1).f0) then (if ((rd_T38 y114 x25_2).f1) > ((rd_T38 l0 x12_1).f1) then (spec_ToldOf.l1 k2 l0 a1 2 l0 (l0.length : Int) x12_1 y114 (y114.length : Int) (wrap64 (x25_2 + 1)) ((rd_T38 l0 x12_1).f0) ((rd_T38 l0 x12_1).f1) ((rd_T38 l0 x12_1).f2)) else (spec_ToldOf.l1 k2 l0 a1 x5_2 l0 (l0.length : Int) x12_1 y114 (y114.length : Int) (wrap64 (x25_2 + 1)) ((rd_T38 l0 x12_1).f0) ((rd_T38 l0 x12_1).f1) ((rd_T38 l0 x12_1).f2))) else (spec_ToldOf.l1 k2 l0 a1 x5_2 l0 (l0.length : Int) x12_1 y114 (y114.length : Int) (wrap64 (x25_2 + 1)) ((rd_T38 l0 x12_1).f0) ((rd_T38 l0 x12_1).f1) ((rd_T38 l0 x12_1).f2)))) = some r := H
                          have A17 := Aside0.mk A170
                          clear A170
                          by_cases c18 : t120 = true
                          · subst c18
                            have H1 : (some 1) = some r := by rw [if_pos rfl] at H; exact H
                            clear H
                            have H := H1
                            clear H1
                            obtain rfl := Option.some.inj H
                            have p118 : 0 ≤ (x25_2 : Int) := of_decide_eq_true (by first | (with_reducible assumption) | assumption)
                            have q118 : x25_2 < (y114.length : Int) := of_decide_eq_true (by first | (with_reducible assumption) | assumption)
                            obtain ⟨ad118, e118, hx118_0, hx118_1, hx118_2⟩ := at_T38 HR117.out x25_2 p118 q118
                            obtain rfl : ad111 = ad118 := (by injection e118)
                            replace hx118_0 := (HB.out.cell (World.block_lt_of_cell? w _ hx118_0)).trans hx118_0
                            replace hx118_1 := (HB.out.cell (World.block_lt_of_cell? w _ hx118_1)).trans hx118_1
                            replace hx118_2 := (HB.out.cell (World.block_lt_of_cell? w _ hx118_2)).trans hx118_2
                            replace p118 := eq_true p118
                            replace q118 := eq_true q118
                            go_wp2_with (first | ((with_reducible refine gate_dst (N := 9) rfl ?_); refine box_event ?hg (N := 9) ?hd (cs := #[.int .i64 0, .int .i64 0, .string (⟨#[]⟩ : ByteArray)]) (t := 38) ?hr ?_; (case hd => rfl); (case hg => rfl); (case hr => first | (go_simp; done) | (go_simp; rfl)); intro gb119 hg w19 hbox hb; have n0_ := Aside0.mk (blk_below (g := gb112) (o := .cells #[.int .i64 ((rd_T38 l0 x12_1).f0), .int .i64 ((rd_T38 l0 x12_1).f1), .string ((rd_T38 l0 x12_1).f2)] 38 (0, 0)) (by (with_reducible repeat (first | refine blk_drewN ?_ _ | refine blk_drew ?_ | refine blk_alloc ?_ _)); exact BK112.out) hb); have n1_ := Aside0.mk (below_step (by repeat (first | (with_reducible first | exact HB.out | apply below_alloc | apply pw_below_drewN | apply below_drew1 | refine below_set ?_ GE112.out) | exact HB.out)) hb); have n2_ := Aside0.mk (hbox); have n3_ := Aside0.mk ((by rw [hg]; exact (below_size (by repeat (first | (with_reducible first | exact HB.out | apply below_alloc | apply pw_below_drewN | apply below_drew1 | refine below_set ?_ GE112.out) | exact HB.out))) : w.heap.size ≤ gb119)); have n4_ := Aside0.mk ((by rw [hg]; exact (below_size (by repeat (first | (with_reducible first | exact HB.out | apply below_alloc | apply pw_below_drewN | apply below_drew1 | refine below_set ?_ GE112.out) | exact HB.out))) : w.heap.size ≤ gb119)); have n5_ := Aside0.mk ((by rw [hg]; exact Nat.ne_of_lt (blk_lt (g := gb112) (o := .cells #[.int .i64 ((rd_T38 l0 x12_1).f0), .int .i64 ((rd_T38 l0 x12_1).f1), .string ((rd_T38 l0 x12_1).f2)] 38 (0, 0)) (by (with_reducible repeat (first | refine blk_drewN ?_ _ | refine blk_drew ?_ | refine blk_alloc ?_ _)); exact BK112.out)) : gb112 ≠ gb119)); have n6_ := Aside0.mk ((by rw [hg]; exact Nat.ne_of_gt (blk_lt (g := gb112) (o := .cells #[.int .i64 ((rd_T38 l0 x12_1).f0), .int .i64 ((rd_T38 l0 x12_1).f1), .string ((rd_T38 l0 x12_1).f2)] 38 (0, 0)) (by (with_reducible repeat (first | refine blk_drewN ?_ _ | refine blk_drew ?_ | refine blk_alloc ?_ _)); exact BK112.out)) : gb119 ≠ gb112)); clear BK112; clear HB; have BK112 := n0_; have HB := n1_; have BK119 := n2_; have GW119 := n3_; have GE119 := n4_; have NB112_119 := n5_; have NB119_112 := n6_; clear n0_ n1_ n2_ n3_ n4_ n5_ n6_; clear hb hbox hg; have hnb20 := NB119_112.out; have hnc20 := NB112_119.out; have hcz21_0 : w19.cell? ⟨gb119, 0, none⟩ = some (.int .i64 0) := (blk_cell BK119.out 0).trans rfl; have hcz21_1 : w19.cell? ⟨gb119, 1, none⟩ = some (.int .i64 0) := (blk_cell BK119.out 1).trans rfl; have hcz21_2 : w19.cell? ⟨gb119, 2, none⟩ = some (.string (⟨#[]⟩ : ByteArray)) := (blk_cell BK119.out 2).trans rfl; have hfz21_0 := blk_frozen BK119.out 0; have hfz21_1 := blk_frozen BK119.out 1; have hfz21_2 := blk_frozen BK119.out 2; have hcz22_0 : w19.cell? ⟨gb112, 0, none⟩ = some (.int .i64 ((rd_T38 l0 x12_1).f0)) := (blk_cell BK112.out 0).trans rfl; have hcz22_1 : w19.cell? ⟨gb112, 1, none⟩ = some (.int .i64 ((rd_T38 l0 x12_1).f1)) := (blk_cell BK112.out 1).trans rfl; have hcz22_2 : w19.cell? ⟨gb112, 2, none⟩ = some (.string ((rd_T38 l0 x12_1).f2)) := (blk_cell BK112.out 2).trans rfl; have hfz22_0 := blk_frozen BK112.out 0; have hfz22_1 := blk_frozen BK112.out 1; have hfz22_2 := blk_frozen BK112.out 2) | ((with_reducible refine gate_callee (f := 22) rfl ?_); refine goesL_ (some 31) rfl rfl Tryd.func22 (by kernel_rfl) rfl #[.agg #[.int .i64 ((rd_T38 y114 x25_2).f0), .int .i64 ((rd_T38 y114 x25_2).f1), .string ((rd_T38 y114 x25_2).f2)], .agg #[.int .i64 ((rd_T38 l0 x12_1).f0), .int .i64 ((rd_T38 l0 x12_1).f1), .string ((rd_T38 l0 x12_1).f2)]] rfl (by (try simp only [List.map_toArray, List.map_cons, List.map_nil]); first | done | rfl | (simp only [List.length_drop, List.length_take]; rfl)) ?_; (with_reducible refine (spec_Overlap.calls ((rd_T38 y114 x25_2).f0) ((rd_T38 y114 x25_2).f1) ((rd_T38 y114 x25_2).f2) ((rd_T38 l0 x12_1).f0) ((rd_T38 l0 x12_1).f1) ((rd_T38 l0 x12_1).f2) true _ A17.out).mono ?_); rintro e w23 ⟨rfl, hb⟩; refine ⟨_, rfl, ?_⟩; have n0_ := Aside0.mk (blk_below (g := gb112) (o := .cells #[.int .i64 ((rd_T38 l0 x12_1).f0), .int .i64 ((rd_T38 l0 x12_1).f1), .string ((rd_T38 l0 x12_1).f2)] 38 (0, 0)) (by (with_reducible repeat (first | refine blk_drewN ?_ _ | refine blk_drew ?_ | refine blk_alloc ?_ _)); refine blk_far ?_ NB112_119.out _; (with_reducible repeat (first | refine blk_drewN ?_ _ | refine blk_drew ?_ | refine blk_alloc ?_ _)); refine blk_far ?_ NB112_119.out _; (with_reducible repeat (first | refine blk_drewN ?_ _ | refine blk_drew ?_ | refine blk_alloc ?_ _)); refine blk_far ?_ NB112_119.out _; (with_reducible repeat (first | refine blk_drewN ?_ _ | refine blk_drew ?_ | refine blk_alloc ?_ _)); exact BK112.out) hb); have n1_ := Aside0.mk (blk_below (g := gb119) (o := .cells #[.int .i64 ((rd_T38 y114 x25_2).f0), .int .i64 ((rd_T38 y114 x25_2).f1), .string ((rd_T38 y114 x25_2).f2)] 38 (0, 0)) (by (with_reducible repeat (first | refine blk_drewN ?_ _ | refine blk_drew ?_ | refine blk_alloc ?_ _)); refine blk_put (cs := #[.int .i64 ((rd_T38 y114 x25_2).f0), .int .i64 ((rd_T38 y114 x25_2).f1), .string (⟨#[]⟩ : ByteArray)]) ?_ 2 _ rfl; (with_reducible repeat (first | refine blk_drewN ?_ _ | refine blk_drew ?_ | refine blk_alloc ?_ _)); refine blk_put (cs := #[.int .i64 ((rd_T38 y114 x25_2).f0), .int .i64 0, .string (⟨#[]⟩ : ByteArray)]) ?_ 1 _ rfl; (with_reducible repeat (first | refine blk_drewN ?_ _ | refine blk_drew ?_ | refine blk_alloc ?_ _)); refine blk_put (cs := #[.int .i64 0, .int .i64 0, .string (⟨#[]⟩ : ByteArray)]) ?_ 0 _ rfl; (with_reducible repeat (first | refine blk_drewN ?_ _ | refine blk_drew ?_ | refine blk_alloc ?_ _)); exact BK119.out) hb); have n2_ := Aside0.mk (below_step (by repeat (first | (with_reducible first | exact HB.out | apply below_alloc | apply pw_below_drewN | apply below_drew1 | refine below_set ?_ GE112.out | refine below_set ?_ GE119.out) | exact HB.out)) hb); clear BK112; clear BK119; clear HB; have BK112 := n0_; have BK119 := n1_; have HB := n2_; clear n0_ n1_ n2_; (try clear hb); (try clear hb2); (try clear hk); (try clear hi)))
                            go_ret
                            exact ⟨by first | rfl | (simp [errW_none, errW_some] <;> rfl) | (simp [*, errW_none, errW_some] <;> rfl), by repeat (first | (with_reducible first | exact HB.out | apply below_alloc | apply pw_below_drewN | apply below_drew1 | refine below_set ?_ GE112.out | refine below_set ?_ GE119.out) | exact HB.out)⟩
                          · replace c18 := Bool.eq_false_iff.mpr c18
                            subst c18
                            have H1 : (if ((rd_T38 y114 x25_2).f0) = ((rd_T38 l0 x12_1).f0) then (if ((rd_T38 y114 x25_2).f1) > ((rd_T38 l0 x12_1).f1) then (spec_ToldOf.l1 k2 l0 a1 2 l0 (l0.length : Int) x12_1 y114 (y114.length : Int) (wrap64 (x25_2 + 1)) ((rd_T38 l0 x12_1).f0) ((rd_T38 l0 x12_1).f1) ((rd_T38 l0 x12_1).f2)) else (spec_ToldOf.l1 k2 l0 a1 x5_2 l0 (l0.length : Int) x12_1 y114 (y114.length : Int) (wrap64 (x25_2 + 1)) ((rd_T38 l0 x12_1).f0) ((rd_T38 l0 x12_1).f1) ((rd_T38 l0 x12_1).f2))) else (spec_ToldOf.l1 k2 l0 a1 x5_2 l0 (l0.length : Int) x12_1 y114 (y114.length : Int) (wrap64 (x25_2 + 1)) ((rd_T38 l0 x12_1).f0) ((rd_T38 l0 x12_1).f1) ((rd_T38 l0 x12_1).f2))) = some r := by rw [if_neg (show ¬ (false = true) by decide)] at H; exact H
                            clear H
                            have H := H1
                            clear H1
                            by_cases c24 : ((rd_T38 y114 x25_2).f0) = ((rd_T38 l0 x12_1).f0)
                            · rw [if_pos c24] at H
                              have c24b0 : (((rd_T38 y114 x25_2).f0) == ((rd_T38 l0 x12_1).f0)) = true := beq_iff_eq.mpr c24
                              have c24b1 : (((rd_T38 y114 x25_2).f0) != ((rd_T38 l0 x12_1).f0)) = false := bne_eq_false_iff_eq.mpr c24
                              clear c24
                              by_cases c25 : ((rd_T38 y114 x25_2).f1) > ((rd_T38 l0 x12_1).f1)
                              · rw [if_pos c25] at H
                                have c25b0 : decide (((rd_T38 l0 x12_1).f1) < ((rd_T38 y114 x25_2).f1)) = true := decide_eq_true c25
                                clear c25
                                have H' := Aside0.mk H
                                clear H
                                have p118 : 0 ≤ (x25_2 : Int) := of_decide_eq_true (by first | (with_reducible assumption) | assumption)
                                have q118 : x25_2 < (y114.length : Int) := of_decide_eq_true (by first | (with_reducible assumption) | assumption)
                                obtain ⟨ad118, e118, hx118_0, hx118_1, hx118_2⟩ := at_T38 HR117.out x25_2 p118 q118
                                obtain rfl : ad111 = ad118 := (by injection e118)
                                replace hx118_0 := (HB.out.cell (World.block_lt_of_cell? w _ hx118_0)).trans hx118_0
                                replace hx118_1 := (HB.out.cell (World.block_lt_of_cell? w _ hx118_1)).trans hx118_1
                                replace hx118_2 := (HB.out.cell (World.block_lt_of_cell? w _ hx118_2)).trans hx118_2
                                replace p118 := eq_true p118
                                replace q118 := eq_true q118
                                go_wp2_with (first | ((with_reducible refine gate_dst (N := 9) rfl ?_); refine box_event ?hg (N := 9) ?hd (cs := #[.int .i64 0, .int .i64 0, .string (⟨#[]⟩ : ByteArray)]) (t := 38) ?hr ?_; (case hd => rfl); (case hg => rfl); (case hr => first | (go_simp; done) | (go_simp; rfl)); intro gb119 hg w26 hbox hb; have n0_ := Aside0.mk (blk_below (g := gb112) (o := .cells #[.int .i64 ((rd_T38 l0 x12_1).f0), .int .i64 ((rd_T38 l0 x12_1).f1), .string ((rd_T38 l0 x12_1).f2)] 38 (0, 0)) (by (with_reducible repeat (first | refine blk_drewN ?_ _ | refine blk_drew ?_ | refine blk_alloc ?_ _)); exact BK112.out) hb); have n1_ := Aside0.mk (below_step (by repeat (first | (with_reducible first | exact HB.out | apply below_alloc | apply pw_below_drewN | apply below_drew1 | refine below_set ?_ GE112.out) | exact HB.out)) hb); have n2_ := Aside0.mk (hbox); have n3_ := Aside0.mk ((by rw [hg]; exact (below_size (by repeat (first | (with_reducible first | exact HB.out | apply below_alloc | apply pw_below_drewN | apply below_drew1 | refine below_set ?_ GE112.out) | exact HB.out))) : w.heap.size ≤ gb119)); have n4_ := Aside0.mk ((by rw [hg]; exact (below_size (by repeat (first | (with_reducible first | exact HB.out | apply below_alloc | apply pw_below_drewN | apply below_drew1 | refine below_set ?_ GE112.out) | exact HB.out))) : w.heap.size ≤ gb119)); have n5_ := Aside0.mk ((by rw [hg]; exact Nat.ne_of_lt (blk_lt (g := gb112) (o := .cells #[.int .i64 ((rd_T38 l0 x12_1).f0), .int .i64 ((rd_T38 l0 x12_1).f1), .string ((rd_T38 l0 x12_1).f2)] 38 (0, 0)) (by (with_reducible repeat (first | refine blk_drewN ?_ _ | refine blk_drew ?_ | refine blk_alloc ?_ _)); exact BK112.out)) : gb112 ≠ gb119)); have n6_ := Aside0.mk ((by rw [hg]; exact Nat.ne_of_gt (blk_lt (g := gb112) (o := .cells #[.int .i64 ((rd_T38 l0 x12_1).f0), .int .i64 ((rd_T38 l0 x12_1).f1), .string ((rd_T38 l0 x12_1).f2)] 38 (0, 0)) (by (with_reducible repeat (first | refine blk_drewN ?_ _ | refine blk_drew ?_ | refine blk_alloc ?_ _)); exact BK112.out)) : gb119 ≠ gb112)); clear BK112; clear HB; have BK112 := n0_; have HB := n1_; have BK119 := n2_; have GW119 := n3_; have GE119 := n4_; have NB112_119 := n5_; have NB119_112 := n6_; clear n0_ n1_ n2_ n3_ n4_ n5_ n6_; clear hb hbox hg; have hnb27 := NB119_112.out; have hnc27 := NB112_119.out; have hcz28_0 : w26.cell? ⟨gb119, 0, none⟩ = some (.int .i64 0) := (blk_cell BK119.out 0).trans rfl; have hcz28_1 : w26.cell? ⟨gb119, 1, none⟩ = some (.int .i64 0) := (blk_cell BK119.out 1).trans rfl; have hcz28_2 : w26.cell? ⟨gb119, 2, none⟩ = some (.string (⟨#[]⟩ : ByteArray)) := (blk_cell BK119.out 2).trans rfl; have hfz28_0 := blk_frozen BK119.out 0; have hfz28_1 := blk_frozen BK119.out 1; have hfz28_2 := blk_frozen BK119.out 2; have hcz29_0 : w26.cell? ⟨gb112, 0, none⟩ = some (.int .i64 ((rd_T38 l0 x12_1).f0)) := (blk_cell BK112.out 0).trans rfl; have hcz29_1 : w26.cell? ⟨gb112, 1, none⟩ = some (.int .i64 ((rd_T38 l0 x12_1).f1)) := (blk_cell BK112.out 1).trans rfl; have hcz29_2 : w26.cell? ⟨gb112, 2, none⟩ = some (.string ((rd_T38 l0 x12_1).f2)) := (blk_cell BK112.out 2).trans rfl; have hfz29_0 := blk_frozen BK112.out 0; have hfz29_1 := blk_frozen BK112.out 1; have hfz29_2 := blk_frozen BK112.out 2) | ((with_reducible refine gate_callee (f := 22) rfl ?_); refine goesL_ (some 31) rfl rfl Tryd.func22 (by kernel_rfl) rfl #[.agg #[.int .i64 ((rd_T38 y114 x25_2).f0), .int .i64 ((rd_T38 y114 x25_2).f1), .string ((rd_T38 y114 x25_2).f2)], .agg #[.int .i64 ((rd_T38 l0 x12_1).f0), .int .i64 ((rd_T38 l0 x12_1).f1), .string ((rd_T38 l0 x12_1).f2)]] rfl (by (try simp only [List.map_toArray, List.map_cons, List.map_nil]); first | done | rfl | (simp only [List.length_drop, List.length_take]; rfl)) ?_; (with_reducible refine (spec_Overlap.calls ((rd_T38 y114 x25_2).f0) ((rd_T38 y114 x25_2).f1) ((rd_T38 y114 x25_2).f2) ((rd_T38 l0 x12_1).f0) ((rd_T38 l0 x12_1).f1) ((rd_T38 l0 x12_1).f2) false _ A17.out).mono ?_); rintro e w30 ⟨rfl, hb⟩; refine ⟨_, rfl, ?_⟩; have n0_ := Aside0.mk (blk_below (g := gb112) (o := .cells #[.int .i64 ((rd_T38 l0 x12_1).f0), .int .i64 ((rd_T38 l0 x12_1).f1), .string ((rd_T38 l0 x12_1).f2)] 38 (0, 0)) (by (with_reducible repeat (first | refine blk_drewN ?_ _ | refine blk_drew ?_ | refine blk_alloc ?_ _)); refine blk_far ?_ NB112_119.out _; (with_reducible repeat (first | refine blk_drewN ?_ _ | refine blk_drew ?_ | refine blk_alloc ?_ _)); refine blk_far ?_ NB112_119.out _; (with_reducible repeat (first | refine blk_drewN ?_ _ | refine blk_drew ?_ | refine blk_alloc ?_ _)); refine blk_far ?_ NB112_119.out _; (with_reducible repeat (first | refine blk_drewN ?_ _ | refine blk_drew ?_ | refine blk_alloc ?_ _)); exact BK112.out) hb); have n1_ := Aside0.mk (blk_below (g := gb119) (o := .cells #[.int .i64 ((rd_T38 y114 x25_2).f0), .int .i64 ((rd_T38 y114 x25_2).f1), .string ((rd_T38 y114 x25_2).f2)] 38 (0, 0)) (by (with_reducible repeat (first | refine blk_drewN ?_ _ | refine blk_drew ?_ | refine blk_alloc ?_ _)); refine blk_put (cs := #[.int .i64 ((rd_T38 y114 x25_2).f0), .int .i64 ((rd_T38 y114 x25_2).f1), .string (⟨#[]⟩ : ByteArray)]) ?_ 2 _ rfl; (with_reducible repeat (first | refine blk_drewN ?_ _ | refine blk_drew ?_ | refine blk_alloc ?_ _)); refine blk_put (cs := #[.int .i64 ((rd_T38 y114 x25_2).f0), .int .i64 0, .string (⟨#[]⟩ : ByteArray)]) ?_ 1 _ rfl; (with_reducible repeat (first | refine blk_drewN ?_ _ | refine blk_drew ?_ | refine blk_alloc ?_ _)); refine blk_put (cs := #[.int .i64 0, .int .i64 0, .string (⟨#[]⟩ : ByteArray)]) ?_ 0 _ rfl; (with_reducible repeat (first | refine blk_drewN ?_ _ | refine blk_drew ?_ | refine blk_alloc ?_ _)); exact BK119.out) hb); have n2_ := Aside0.mk (below_step (by repeat (first | (with_reducible first | exact HB.out | apply below_alloc | apply pw_below_drewN | apply below_drew1 | refine below_set ?_ GE112.out | refine below_set ?_ GE119.out) | exact HB.out)) hb); clear BK112; clear BK119; clear HB; have BK112 := n0_; have BK119 := n1_; have HB := n2_; clear n0_ n1_ n2_; (try clear hb); (try clear hb2); (try clear hk); (try clear hi); have hcz31_0 : w30.cell? ⟨gb119, 0, none⟩ = some (.int .i64 ((rd_T38 y114 x25_2).f0)) := (blk_cell BK119.out 0).trans rfl; have hcz31_1 : w30.cell? ⟨gb119, 1, none⟩ = some (.int .i64 ((rd_T38 y114 x25_2).f1)) := (blk_cell BK119.out 1).trans rfl; have hcz31_2 : w30.cell? ⟨gb119, 2, none⟩ = some (.string ((rd_T38 y114 x25_2).f2)) := (blk_cell BK119.out 2).trans rfl; have hfz31_0 := blk_frozen BK119.out 0; have hfz31_1 := blk_frozen BK119.out 1; have hfz31_2 := blk_frozen BK119.out 2; have hcz32_0 : w30.cell? ⟨gb112, 0, none⟩ = some (.int .i64 ((rd_T38 l0 x12_1).f0)) := (blk_cell BK112.out 0).trans rfl; have hcz32_1 : w30.cell? ⟨gb112, 1, none⟩ = some (.int .i64 ((rd_T38 l0 x12_1).f1)) := (blk_cell BK112.out 1).trans rfl; have hcz32_2 : w30.cell? ⟨gb112, 2, none⟩ = some (.string ((rd_T38 l0 x12_1).f2)) := (blk_cell BK112.out 2).trans rfl; have hfz32_0 := blk_frozen BK112.out 0; have hfz32_1 := blk_frozen BK112.out 1; have hfz32_2 := blk_frozen BK112.out 2))
                                go_roundg k2
                                case measure => have := HK1.out; have := HK2.out; omega
                                case rel => exact ⟨(2), (wrap64 (x25_2 + 1)), (by first | rfl | (simp; done) | (simp [*]; done)), (by first | rfl | (simp; done) | (simp [*]; done)), H', ⟨by have := HK1.out; have := HK2.out; omega⟩, ⟨by (with_reducible repeat (first | refine blk_drewN ?_ _ | refine blk_drew ?_ | refine blk_alloc ?_ _)); exact BK112.out⟩, ⟨by repeat (first | (with_reducible first | exact HB.out | apply below_alloc | apply pw_below_drewN | apply below_drew1 | refine below_set ?_ GE112.out | refine below_set ?_ GE119.out) | exact HB.out)⟩⟩
                              · rw [if_neg c25] at H
                                have c25b0 : decide (((rd_T38 l0 x12_1).f1) < ((rd_T38 y114 x25_2).f1)) = false := decide_eq_false c25
                                clear c25
                                have H' := Aside0.mk H
                                clear H
                                have p118 : 0 ≤ (x25_2 : Int) := of_decide_eq_true (by first | (with_reducible assumption) | assumption)
                                have q118 : x25_2 < (y114.length : Int) := of_decide_eq_true (by first | (with_reducible assumption) | assumption)
                                obtain ⟨ad118, e118, hx118_0, hx118_1, hx118_2⟩ := at_T38 HR117.out x25_2 p118 q118
                                obtain rfl : ad111 = ad118 := (by injection e118)
                                replace hx118_0 := (HB.out.cell (World.block_lt_of_cell? w _ hx118_0)).trans hx118_0
                                replace hx118_1 := (HB.out.cell (World.block_lt_of_cell? w _ hx118_1)).trans hx118_1
                                replace hx118_2 := (HB.out.cell (World.block_lt_of_cell? w _ hx118_2)).trans hx118_2
                                replace p118 := eq_true p118
                                replace q118 := eq_true q118
                                go_wp2_with (first | ((with_reducible refine gate_dst (N := 9) rfl ?_); refine box_event ?hg (N := 9) ?hd (cs := #[.int .i64 0, .int .i64 0, .string (⟨#[]⟩ : ByteArray)]) (t := 38) ?hr ?_; (case hd => rfl); (case hg => rfl); (case hr => first | (go_simp; done) | (go_simp; rfl)); intro gb119 hg w33 hbox hb; have n0_ := Aside0.mk (blk_below (g := gb112) (o := .cells #[.int .i64 ((rd_T38 l0 x12_1).f0), .int .i64 ((rd_T38 l0 x12_1).f1), .string ((rd_T38 l0 x12_1).f2)] 38 (0, 0)) (by (with_reducible repeat (first | refine blk_drewN ?_ _ | refine blk_drew ?_ | refine blk_alloc ?_ _)); exact BK112.out) hb); have n1_ := Aside0.mk (below_step (by repeat (first | (with_reducible first | exact HB.out | apply below_alloc | apply pw_below_drewN | apply below_drew1 | refine below_set ?_ GE112.out) | exact HB.out)) hb); have n2_ := Aside0.mk (hbox); have n3_ := Aside0.mk ((by rw [hg]; exact (below_size (by repeat (first | (with_reducible first | exact HB.out | apply below_alloc | apply pw_below_drewN | apply below_drew1 | refine below_set ?_ GE112.out) | exact HB.out))) : w.heap.size ≤ gb119)); have n4_ := Aside0.mk ((by rw [hg]; exact (below_size (by repeat (first | (with_reducible first | exact HB.out | apply below_alloc | apply pw_below_drewN | apply below_drew1 | refine below_set ?_ GE112.out) | exact HB.out))) : w.heap.size ≤ gb119)); have n5_ := Aside0.mk ((by rw [hg]; exact Nat.ne_of_lt (blk_lt (g := gb112) (o := .cells #[.int .i64 ((rd_T38 l0 x12_1).f0), .int .i64 ((rd_T38 l0 x12_1).f1), .string ((rd_T38 l0 x12_1).f2)] 38 (0, 0)) (by (with_reducible repeat (first | refine blk_drewN ?_ _ | refine blk_drew ?_ | refine blk_alloc ?_ _)); exact BK112.out)) : gb112 ≠ gb119)); have n6_ := Aside0.mk ((by rw [hg]; exact Nat.ne_of_gt (blk_lt (g := gb112) (o := .cells #[.int .i64 ((rd_T38 l0 x12_1).f0), .int .i64 ((rd_T38 l0 x12_1).f1), .string ((rd_T38 l0 x12_1).f2)] 38 (0, 0)) (by (with_reducible repeat (first | refine blk_drewN ?_ _ | refine blk_drew ?_ | refine blk_alloc ?_ _)); exact BK112.out)) : gb119 ≠ gb112)); clear BK112; clear HB; have BK112 := n0_; have HB := n1_; have BK119 := n2_; have GW119 := n3_; have GE119 := n4_; have NB112_119 := n5_; have NB119_112 := n6_; clear n0_ n1_ n2_ n3_ n4_ n5_ n6_; clear hb hbox hg; have hnb34 := NB119_112.out; have hnc34 := NB112_119.out; have hcz35_0 : w33.cell? ⟨gb119, 0, none⟩ = some (.int .i64 0) := (blk_cell BK119.out 0).trans rfl; have hcz35_1 : w33.cell? ⟨gb119, 1, none⟩ = some (.int .i64 0) := (blk_cell BK119.out 1).trans rfl; have hcz35_2 : w33.cell? ⟨gb119, 2, none⟩ = some (.string (⟨#[]⟩ : ByteArray)) := (blk_cell BK119.out 2).trans rfl; have hfz35_0 := blk_frozen BK119.out 0; have hfz35_1 := blk_frozen BK119.out 1; have hfz35_2 := blk_frozen BK119.out 2; have hcz36_0 : w33.cell? ⟨gb112, 0, none⟩ = some (.int .i64 ((rd_T38 l0 x12_1).f0)) := (blk_cell BK112.out 0).trans rfl; have hcz36_1 : w33.cell? ⟨gb112, 1, none⟩ = some (.int .i64 ((rd_T38 l0 x12_1).f1)) := (blk_cell BK112.out 1).trans rfl; have hcz36_2 : w33.cell? ⟨gb112, 2, none⟩ = some (.string ((rd_T38 l0 x12_1).f2)) := (blk_cell BK112.out 2).trans rfl; have hfz36_0 := blk_frozen BK112.out 0; have hfz36_1 := blk_frozen BK112.out 1; have hfz36_2 := blk_frozen BK112.out 2) | ((with_reducible refine gate_callee (f := 22) rfl ?_); refine goesL_ (some 31) rfl rfl Tryd.func22 (by kernel_rfl) rfl #[.agg #[.int .i64 ((rd_T38 y114 x25_2).f0), .int .i64 ((rd_T38 y114 x25_2).f1), .string ((rd_T38 y114 x25_2).f2)], .agg #[.int .i64 ((rd_T38 l0 x12_1).f0), .int .i64 ((rd_T38 l0 x12_1).f1), .string ((rd_T38 l0 x12_1).f2)]] rfl (by (try simp only [List.map_toArray, List.map_cons, List.map_nil]); first | done | rfl | (simp only [List.length_drop, List.length_take]; rfl)) ?_; (with_reducible refine (spec_Overlap.calls ((rd_T38 y114 x25_2).f0) ((rd_T38 y114 x25_2).f1) ((rd_T38 y114 x25_2).f2) ((rd_T38 l0 x12_1).f0) ((rd_T38 l0 x12_1).f1) ((rd_T38 l0 x12_1).f2) false _ A17.out).mono ?_); rintro e w37 ⟨rfl, hb⟩; refine ⟨_, rfl, ?_⟩; have n0_ := Aside0.mk (blk_below (g := gb112) (o := .cells #[.int .i64 ((rd_T38 l0 x12_1).f0), .int .i64 ((rd_T38 l0 x12_1).f1), .string ((rd_T38 l0 x12_1).f2)] 38 (0, 0)) (by (with_reducible repeat (first | refine blk_drewN ?_ _ | refine blk_drew ?_ | refine blk_alloc ?_ _)); refine blk_far ?_ NB112_119.out _; (with_reducible repeat (first | refine blk_drewN ?_ _ | refine blk_drew ?_ | refine blk_alloc ?_ _)); refine blk_far ?_ NB112_119.out _; (with_reducible repeat (first | refine blk_drewN ?_ _ | refine blk_drew ?_ | refine blk_alloc ?_ _)); refine blk_far ?_ NB112_119.out _; (with_reducible repeat (first | refine blk_drewN ?_ _ | refine blk_drew ?_ | refine blk_alloc ?_ _)); exact BK112.out) hb); have n1_ := Aside0.mk (blk_below (g := gb119) (o := .cells #[.int .i64 ((rd_T38 y114 x25_2).f0), .int .i64 ((rd_T38 y114 x25_2).f1), .string ((rd_T38 y114 x25_2).f2)] 38 (0, 0)) (by (with_reducible repeat (first | refine blk_drewN ?_ _ | refine blk_drew ?_ | refine blk_alloc ?_ _)); refine blk_put (cs := #[.int .i64 ((rd_T38 y114 x25_2).f0), .int .i64 ((rd_T38 y114 x25_2).f1), .string (⟨#[]⟩ : ByteArray)]) ?_ 2 _ rfl; (with_reducible repeat (first | refine blk_drewN ?_ _ | refine blk_drew ?_ | refine blk_alloc ?_ _)); refine blk_put (cs := #[.int .i64 ((rd_T38 y114 x25_2).f0), .int .i64 0, .string (⟨#[]⟩ : ByteArray)]) ?_ 1 _ rfl; (with_reducible repeat (first | refine blk_drewN ?_ _ | refine blk_drew ?_ | refine blk_alloc ?_ _)); refine blk_put (cs := #[.int .i64 0, .int .i64 0, .string (⟨#[]⟩ : ByteArray)]) ?_ 0 _ rfl; (with_reducible repeat (first | refine blk_drewN ?_ _ | refine blk_drew ?_ | refine blk_alloc ?_ _)); exact BK119.out) hb); have n2_ := Aside0.mk (below_step (by repeat (first | (with_reducible first | exact HB.out | apply below_alloc | apply pw_below_drewN | apply below_drew1 | refine below_set ?_ GE112.out | refine below_set ?_ GE119.out) | exact HB.out)) hb); clear BK112; clear BK119; clear HB; have BK112 := n0_; have BK119 := n1_; have HB := n2_; clear n0_ n1_ n2_; (try clear hb); (try clear hb2); (try clear hk); (try clear hi); have hcz38_0 : w37.cell? ⟨gb119, 0, none⟩ = some (.int .i64 ((rd_T38 y114 x25_2).f0)) := (blk_cell BK119.out 0).trans rfl; have hcz38_1 : w37.cell? ⟨gb119, 1, none⟩ = some (.int .i64 ((rd_T38 y114 x25_2).f1)) := (blk_cell BK119.out 1).trans rfl; have hcz38_2 : w37.cell? ⟨gb119, 2, none⟩ = some (.string ((rd_T38 y114 x25_2).f2)) := (blk_cell BK119.out 2).trans rfl; have hfz38_0 := blk_frozen BK119.out 0; have hfz38_1 := blk_frozen BK119.out 1; have hfz38_2 := blk_frozen BK119.out 2; have hcz39_0 : w37.cell? ⟨gb112, 0, none⟩ = some (.int .i64 ((rd_T38 l0 x12_1).f0)) := (blk_cell BK112.out 0).trans rfl; have hcz39_1 : w37.cell? ⟨gb112, 1, none⟩ = some (.int .i64 ((rd_T38 l0 x12_1).f1)) := (blk_cell BK112.out 1).trans rfl; have hcz39_2 : w37.cell? ⟨gb112, 2, none⟩ = some (.string ((rd_T38 l0 x12_1).f2)) := (blk_cell BK112.out 2).trans rfl; have hfz39_0 := blk_frozen BK112.out 0; have hfz39_1 := blk_frozen BK112.out 1; have hfz39_2 := blk_frozen BK112.out 2))
                                go_roundg k2
                                case measure => have := HK1.out; have := HK2.out; omega
                                case rel => exact ⟨(x5_2), (wrap64 (x25_2 + 1)), (by first | rfl | (simp; done) | (simp [*]; done)), (by first | rfl | (simp; done) | (simp [*]; done)), H', ⟨by have := HK1.out; have := HK2.out; omega⟩, ⟨by (with_reducible repeat (first | refine blk_drewN ?_ _ | refine blk_drew ?_ | refine blk_alloc ?_ _)); exact BK112.out⟩, ⟨by repeat (first | (with_reducible first | exact HB.out | apply below_alloc | apply pw_below_drewN | apply below_drew1 | refine below_set ?_ GE112.out | refine below_set ?_ GE119.out) | exact HB.out)⟩⟩
                            · rw [if_neg c24] at H
                              have c24b0 : (((rd_T38 y114 x25_2).f0) == ((rd_T38 l0 x12_1).f0)) = false := beq_eq_false_iff_ne.mpr c24
                              have c24b1 : (((rd_T38 y114 x25_2).f0) != ((rd_T38 l0 x12_1).f0)) = true := bne_iff_ne.mpr c24
                              have H' := Aside0.mk H
                              clear H
                              have p118 : 0 ≤ (x25_2 : Int) := of_decide_eq_true (by first | (with_reducible assumption) | assumption)
                              have q118 : x25_2 < (y114.length : Int) := of_decide_eq_true (by first | (with_reducible assumption) | assumption)
                              obtain ⟨ad118, e118, hx118_0, hx118_1, hx118_2⟩ := at_T38 HR117.out x25_2 p118 q118
                              obtain rfl : ad111 = ad118 := (by injection e118)
                              replace hx118_0 := (HB.out.cell (World.block_lt_of_cell? w _ hx118_0)).trans hx118_0
                              replace hx118_1 := (HB.out.cell (World.block_lt_of_cell? w _ hx118_1)).trans hx118_1
                              replace hx118_2 := (HB.out.cell (World.block_lt_of_cell? w _ hx118_2)).trans hx118_2
                              replace p118 := eq_true p118
                              replace q118 := eq_true q118
                              go_wp2_with (first | ((with_reducible refine gate_dst (N := 9) rfl ?_); refine box_event ?hg (N := 9) ?hd (cs := #[.int .i64 0, .int .i64 0, .string (⟨#[]⟩ : ByteArray)]) (t := 38) ?hr ?_; (case hd => rfl); (case hg => rfl); (case hr => first | (go_simp; done) | (go_simp; rfl)); intro gb119 hg w40 hbox hb; have n0_ := Aside0.mk (blk_below (g := gb112) (o := .cells #[.int .i64 ((rd_T38 l0 x12_1).f0), .int .i64 ((rd_T38 l0 x12_1).f1), .string ((rd_T38 l0 x12_1).f2)] 38 (0, 0)) (by (with_reducible repeat (first | refine blk_drewN ?_ _ | refine blk_drew ?_ | refine blk_alloc ?_ _)); exact BK112.out) hb); have n1_ := Aside0.mk (below_step (by repeat (first | (with_reducible first | exact HB.out | apply below_alloc | apply pw_below_drewN | apply below_drew1 | refine below_set ?_ GE112.out) | exact HB.out)) hb); have n2_ := Aside0.mk (hbox); have n3_ := Aside0.mk ((by rw [hg]; exact (below_size (by repeat (first | (with_reducible first | exact HB.out | apply below_alloc | apply pw_below_drewN | apply below_drew1 | refine below_set ?_ GE112.out) | exact HB.out))) : w.heap.size ≤ gb119)); have n4_ := Aside0.mk ((by rw [hg]; exact (below_size (by repeat (first | (with_reducible first | exact HB.out | apply below_alloc | apply pw_below_drewN | apply below_drew1 | refine below_set ?_ GE112.out) | exact HB.out))) : w.heap.size ≤ gb119)); have n5_ := Aside0.mk ((by rw [hg]; exact Nat.ne_of_lt (blk_lt (g := gb112) (o := .cells #[.int .i64 ((rd_T38 l0 x12_1).f0), .int .i64 ((rd_T38 l0 x12_1).f1), .string ((rd_T38 l0 x12_1).f2)] 38 (0, 0)) (by (with_reducible repeat (first | refine blk_drewN ?_ _ | refine blk_drew ?_ | refine blk_alloc ?_ _)); exact BK112.out)) : gb112 ≠ gb119)); have n6_ := Aside0.mk ((by rw [hg]; exact Nat.ne_of_gt (blk_lt (g := gb112) (o := .cells #[.int .i64 ((rd_T38 l0 x12_1).f0), .int .i64 ((rd_T38 l0 x12_1).f1), .string ((rd_T38 l0 x12_1).f2)] 38 (0, 0)) (by (with_reducible repeat (first | refine blk_drewN ?_ _ | refine blk_drew ?_ | refine blk_alloc ?_ _)); exact BK112.out)) : gb119 ≠ gb112)); clear BK112; clear HB; have BK112 := n0_; have HB := n1_; have BK119 := n2_; have GW119 := n3_; have GE119 := n4_; have NB112_119 := n5_; have NB119_112 := n6_; clear n0_ n1_ n2_ n3_ n4_ n5_ n6_; clear hb hbox hg; have hnb41 := NB119_112.out; have hnc41 := NB112_119.out; have hcz42_0 : w40.cell? ⟨gb119, 0, none⟩ = some (.int .i64 0) := (blk_cell BK119.out 0).trans rfl; have hcz42_1 : w40.cell? ⟨gb119, 1, none⟩ = some (.int .i64 0) := (blk_cell BK119.out 1).trans rfl; have hcz42_2 : w40.cell? ⟨gb119, 2, none⟩ = some (.string (⟨#[]⟩ : ByteArray)) := (blk_cell BK119.out 2).trans rfl; have hfz42_0 := blk_frozen BK119.out 0; have hfz42_1 := blk_frozen BK119.out 1; have hfz42_2 := blk_frozen BK119.out 2; have hcz43_0 : w40.cell? ⟨gb112, 0, none⟩ = some (.int .i64 ((rd_T38 l0 x12_1).f0)) := (blk_cell BK112.out 0).trans rfl; have hcz43_1 : w40.cell? ⟨gb112, 1, none⟩ = some (.int .i64 ((rd_T38 l0 x12_1).f1)) := (blk_cell BK112.out 1).trans rfl; have hcz43_2 : w40.cell? ⟨gb112, 2, none⟩ = some (.string ((rd_T38 l0 x12_1).f2)) := (blk_cell BK112.out 2).trans rfl; have hfz43_0 := blk_frozen BK112.out 0; have hfz43_1 := blk_frozen BK112.out 1; have hfz43_2 := blk_frozen BK112.out 2) | ((with_reducible refine gate_callee (f := 22) rfl ?_); refine goesL_ (some 31) rfl rfl Tryd.func22 (by kernel_rfl) rfl #[.agg #[.int .i64 ((rd_T38 y114 x25_2).f0), .int .i64 ((rd_T38 y114 x25_2).f1), .string ((rd_T38 y114 x25_2).f2)], .agg #[.int .i64 ((rd_T38 l0 x12_1).f0), .int .i64 ((rd_T38 l0 x12_1).f1), .string ((rd_T38 l0 x12_1).f2)]] rfl (by (try simp only [List.map_toArray, List.map_cons, List.map_nil]); first | done | rfl | (simp only [List.length_drop, List.length_take]; rfl)) ?_; (with_reducible refine (spec_Overlap.calls ((rd_T38 y114 x25_2).f0) ((rd_T38 y114 x25_2).f1) ((rd_T38 y114 x25_2).f2) ((rd_T38 l0 x12_1).f0) ((rd_T38 l0 x12_1).f1) ((rd_T38 l0 x12_1).f2) false _ A17.out).mono ?_); rintro e w44 ⟨rfl, hb⟩; refine ⟨_, rfl, ?_⟩; have n0_ := Aside0.mk (blk_below (g := gb112) (o := .cells #[.int .i64 ((rd_T38 l0 x12_1).f0), .int .i64 ((rd_T38 l0 x12_1).f1), .string ((rd_T38 l0 x12_1).f2)] 38 (0, 0)) (by (with_reducible repeat (first | refine blk_drewN ?_ _ | refine blk_drew ?_ | refine blk_alloc ?_ _)); refine blk_far ?_ NB112_119.out _; (with_reducible repeat (first | refine blk_drewN ?_ _ | refine blk_drew ?_ | refine blk_alloc ?_ _)); refine blk_far ?_ NB112_119.out _; (with_reducible repeat (first | refine blk_drewN ?_ _ | refine blk_drew ?_ | refine blk_alloc ?_ _)); refine blk_far ?_ NB112_119.out _; (with_reducible repeat (first | refine blk_drewN ?_ _ | refine blk_drew ?_ | refine blk_alloc ?_ _)); exact BK112.out) hb); have n1_ := Aside0.mk (blk_below (g := gb119) (o := .cells #[.int .i64 ((rd_T38 y114 x25_2).f0), .int .i64 ((rd_T38 y114 x25_2).f1), .string ((rd_T38 y114 x25_2).f2)] 38 (0, 0)) (by (with_reducible repeat (first | refine blk_drewN ?_ _ | refine blk_drew ?_ | refine blk_alloc ?_ _)); refine blk_put (cs := #[.int .i64 ((rd_T38 y114 x25_2).f0), .int .i64 ((rd_T38 y114 x25_2).f1), .string (⟨#[]⟩ : ByteArray)]) ?_ 2 _ rfl; (with_reducible repeat (first | refine blk_drewN ?_ _ | refine blk_drew ?_ | refine blk_alloc ?_ _)); refine blk_put (cs := #[.int .i64 ((rd_T38 y114 x25_2).f0), .int .i64 0, .string (⟨#[]⟩ : ByteArray)]) ?_ 1 _ rfl; (with_reducible repeat (first | refine blk_drewN ?_ _ | refine blk_drew ?_ | refine blk_alloc ?_ _)); refine blk_put (cs := #[.int .i64 0, .int .i64 0, .string (⟨#[]⟩ : ByteArray)]) ?_ 0 _ rfl; (with_reducible repeat (first | refine blk_drewN ?_ _ | refine blk_drew ?_ | refine blk_alloc ?_ _)); exact BK119.out) hb); have n2_ := Aside0.mk (below_step (by repeat (first | (with_reducible first | exact HB.out | apply below_alloc | apply pw_below_drewN | apply below_drew1 | refine below_set ?_ GE112.out | refine below_set ?_ GE119.out) | exact HB.out)) hb); clear BK112; clear BK119; clear HB; have BK112 := n0_; have BK119 := n1_; have HB := n2_; clear n0_ n1_ n2_; (try clear hb); (try clear hb2); (try clear hk); (try clear hi); have hcz45_0 : w44.cell? ⟨gb119, 0, none⟩ = some (.int .i64 ((rd_T38 y114 x25_2).f0)) := (blk_cell BK119.out 0).trans rfl; have hcz45_1 : w44.cell? ⟨gb119, 1, none⟩ = some (.int .i64 ((rd_T38 y114 x25_2).f1)) := (blk_cell BK119.out 1).trans rfl; have hcz45_2 : w44.cell? ⟨gb119, 2, none⟩ = some (.string ((rd_T38 y114 x25_2).f2)) := (blk_cell BK119.out 2).trans rfl; have hfz45_0 := blk_frozen BK119.out 0; have hfz45_1 := blk_frozen BK119.out 1; have hfz45_2 := blk_frozen BK119.out 2; have hcz46_0 : w44.cell? ⟨gb112, 0, none⟩ = some (.int .i64 ((rd_T38 l0 x12_1).f0)) := (blk_cell BK112.out 0).trans rfl; have hcz46_1 : w44.cell? ⟨gb112, 1, none⟩ = some (.int .i64 ((rd_T38 l0 x12_1).f1)) := (blk_cell BK112.out 1).trans rfl; have hcz46_2 : w44.cell? ⟨gb112, 2, none⟩ = some (.string ((rd_T38 l0 x12_1).f2)) := (blk_cell BK112.out 2).trans rfl; have hfz46_0 := blk_frozen BK112.out 0; have hfz46_1 := blk_frozen BK112.out 1; have hfz46_2 := blk_frozen BK112.out 2))
                              go_roundg k2
                              case measure => have := HK1.out; have := HK2.out; omega
                              case rel => exact ⟨(x5_2), (wrap64 (x25_2 + 1)), (by first | rfl | (simp; done) | (simp [*]; done)), (by first | rfl | (simp; done) | (simp [*]; done)), H', ⟨by have := HK1.out; have := HK2.out; omega⟩, ⟨by (with_reducible repeat (first | refine blk_drewN ?_ _ | refine blk_drew ?_ | refine blk_alloc ?_ _)); exact BK112.out⟩, ⟨by repeat (first | (with_reducible first | exact HB.out | apply below_alloc | apply pw_below_drewN | apply below_drew1 | refine below_set ?_ GE112.out | refine below_set ?_ GE119.out) | exact HB.out)⟩⟩
                        · rw [if_neg c16] at H
                          exact absurd H (by simp)
                      · rw [if_neg c15] at H
                        exact absurd H (by simp)
                    · rw [if_neg c14] at H
                      have c14b0 : decide (x25_2 < (y114.length : Int)) = false := decide_eq_false c14
                      clear c14
                      have H' := Aside0.mk H
                      clear H
                      go_wp2
                      go_roundg k2
                      case measure => have := HK1.out; have := HK2.out; omega
                      case rel => exact ⟨(x5_2), (wrap64 (x12_1 + 1)), (by first | rfl | (simp; done) | (simp [*]; done)), (by first | rfl | (simp; done) | (simp [*]; done)), H', ⟨by have := HK1.out; have := HK2.out; omega⟩, ⟨by repeat (first | (with_reducible first | exact HB.out | apply below_alloc | apply pw_below_drewN | apply below_drew1 | refine below_set ?_ GE112.out) | exact HB.out)⟩⟩
              · rw [if_neg c9] at H
                exact absurd H (by simp)
            · replace c7 := Bool.eq_false_iff.mpr c7
              subst c7
              have H1 : (some 1) = some r := by rw [if_neg (show ¬ (false = true) by decide)] at H; exact H
              clear H
              have H := H1
              clear H1
              obtain rfl := Option.some.inj H
              have p111 : 0 ≤ (x12_1 : Int) := of_decide_eq_true (by first | (with_reducible assumption) | assumption)
              have q111 : x12_1 < (l0.length : Int) := of_decide_eq_true (by first | (with_reducible assumption) | assumption)
              obtain ⟨ad111, e111, hx111_0, hx111_1, hx111_2⟩ := at_T38 HR0.out x12_1 p111 q111
              cases e111
              replace hx111_0 := (HB.out.cell (World.block_lt_of_cell? w _ hx111_0)).trans hx111_0
              replace hx111_1 := (HB.out.cell (World.block_lt_of_cell? w _ hx111_1)).trans hx111_1
              replace hx111_2 := (HB.out.cell (World.block_lt_of_cell? w _ hx111_2)).trans hx111_2
              replace p111 := eq_true p111
              replace q111 := eq_true q111
              go_wp2_with (first | ((with_reducible refine gate_dst (N := 7) rfl ?_); refine box_event ?hg (N := 7) ?hd (cs := #[.int .i64 0, .int .i64 0, .string (⟨#[]⟩ : ByteArray)]) (t := 38) ?hr ?_; (case hd => rfl); (case hg => rfl); (case hr => first | (go_simp; done) | (go_simp; rfl)); intro gb112 hg w47 hbox hb; have n0_ := Aside0.mk (below_step (by repeat (first | (with_reducible first | exact HB.out | apply below_alloc | apply pw_below_drewN | apply below_drew1) | exact HB.out)) hb); have n1_ := Aside0.mk (hbox); have n2_ := Aside0.mk ((by rw [hg]; exact (below_size (by repeat (first | (with_reducible first | exact HB.out | apply below_alloc | apply pw_below_drewN | apply below_drew1) | exact HB.out))) : w.heap.size ≤ gb112)); have n3_ := Aside0.mk ((by rw [hg]; exact (below_size (by repeat (first | (with_reducible first | exact HB.out | apply below_alloc | apply pw_below_drewN | apply below_drew1) | exact HB.out))) : w.heap.size ≤ gb112)); clear HB; have HB := n0_; have BK112 := n1_; have GW112 := n2_; have GE112 := n3_; clear n0_ n1_ n2_ n3_; clear hb hbox hg; have hcz48_0 : w47.cell? ⟨gb112, 0, none⟩ = some (.int .i64 0) := (blk_cell BK112.out 0).trans rfl; have hcz48_1 : w47.cell? ⟨gb112, 1, none⟩ = some (.int .i64 0) := (blk_cell BK112.out 1).trans rfl; have hcz48_2 : w47.cell? ⟨gb112, 2, none⟩ = some (.string (⟨#[]⟩ : ByteArray)) := (blk_cell BK112.out 2).trans rfl; have hfz48_0 := blk_frozen BK112.out 0; have hfz48_1 := blk_frozen BK112.out 1; have hfz48_2 := blk_frozen BK112.out 2) | ((with_reducible refine gate_callee (f := 21) rfl ?_); refine goesL_ (some 19) rfl rfl Tryd.func21 (by kernel_rfl) rfl #[.agg #[.int .i64 ((rd_T38 l0 x12_1).f0), .int .i64 ((rd_T38 l0 x12_1).f1), .string ((rd_T38 l0 x12_1).f2)], .int .i64 a1] rfl (by (try simp only [List.map_toArray, List.map_cons, List.map_nil]); first | done | rfl | (simp only [List.length_drop, List.length_take]; rfl)) ?_; (with_reducible refine (spec_Inside.calls ((rd_T38 l0 x12_1).f0) ((rd_T38 l0 x12_1).f1) ((rd_T38 l0 x12_1).f2) a1 false _ A6.out).mono ?_); rintro e w49 ⟨rfl, hb⟩; refine ⟨_, rfl, ?_⟩; have n0_ := Aside0.mk (blk_below (g := gb112) (o := .cells #[.int .i64 ((rd_T38 l0 x12_1).f0), .int .i64 ((rd_T38 l0 x12_1).f1), .string ((rd_T38 l0 x12_1).f2)] 38 (0, 0)) (by (with_reducible repeat (first | refine blk_drewN ?_ _ | refine blk_drew ?_ | refine blk_alloc ?_ _)); refine blk_put (cs := #[.int .i64 ((rd_T38 l0 x12_1).f0), .int .i64 ((rd_T38 l0 x12_1).f1), .string (⟨#[]⟩ : ByteArray)]) ?_ 2 _ rfl; (with_reducible repeat (first | refine blk_drewN ?_ _ | refine blk_drew ?_ | refine blk_alloc ?_ _)); refine blk_put (cs := #[.int .i64 ((rd_T38 l0 x12_1).f0), .int .i64 0, .string (⟨#[]⟩ : ByteArray)]) ?_ 1 _ rfl; (with_reducible repeat (first | refine blk_drewN ?_ _ | refine blk_drew ?_ | refine blk_alloc ?_ _)); refine blk_put (cs := #[.int .i64 0, .int .i64 0, .string (⟨#[]⟩ : ByteArray)]) ?_ 0 _ rfl; (with_reducible repeat (first | refine blk_drewN ?_ _ | refine blk_drew ?_ | refine blk_alloc ?_ _)); exact BK112.out) hb); have n1_ := Aside0.mk (below_step (by repeat (first | (with_reducible first | exact HB.out | apply below_alloc | apply pw_below_drewN | apply below_drew1 | refine below_set ?_ GE112.out) | exact HB.out)) hb); clear BK112; clear HB; have BK112 := n0_; have HB := n1_; clear n0_ n1_; (try clear hb); (try clear hb2); (try clear hk); (try clear hi)))
              go_ret
              exact ⟨by first | rfl | (simp [errW_none, errW_some] <;> rfl) | (simp [*, errW_none, errW_some] <;> rfl), by repeat (first | (with_reducible first | exact HB.out | apply below_alloc | apply pw_below_drewN | apply below_drew1 | refine below_set ?_ GE112.out) | exact HB.out)⟩
          · rw [if_neg c5] at H
            exact absurd H (by simp)
        · rw [if_neg c4] at H
          exact absurd H (by simp)
      · rw [if_neg c3] at H
        have c3b0 : decide (x12_1 < (l0.length : Int)) = false := decide_eq_false c3
        clear c3
        obtain rfl := Option.some.inj H
        go_wp2
        go_ret
        exact ⟨by first | rfl | (simp [errW_none, errW_some] <;> rfl) | (simp [*, errW_none, errW_some] <;> rfl), by repeat (first | (with_reducible first | exact HB.out | apply below_alloc | apply pw_below_drewN | apply below_drew1) | exact HB.out)⟩

/-! ### spec_Before: function 23 -/
def spec_Before.f (a0_0 : Int) (a0_1 : Int) (a0_2 : ByteArray) (a1_0 : Int) (a1_1 : Int) (a1_2 : ByteArray) : Option (Bool) := if a0_0 < a1_0 then (some true) else (if a0_0 = a1_0 then (some (decide (a0_1 < a1_1))) else (some false))
set_option maxHeartbeats 8000000 in
set_option maxRecDepth 100000 in
theorem spec_Before.calls (a0_0 : Int) (a0_1 : Int) (a0_2 : ByteArray) (a1_0 : Int) (a1_1 : Int) (a1_2 : ByteArray) (r : Bool) (w : World) (h : spec_Before.f a0_0 a0_1 a0_2 a1_0 a1_1 a1_2 = some r) :
    Calls Tryd.prog 23 #[.agg #[.int .i64 a0_0, .int .i64 a0_1, .string a0_2], .agg #[.int .i64 a1_0, .int .i64 a1_1, .string a1_2]] w fun e w' => e = .returned (.bool r) ∧ Below w.heap.size w w' := by
  have hu38 := Tryd.underlying38
  have HB := Aside0.mk (Below.refl w.heap.size w)
  have H : (if a0_0 < a1_0 then (some true) else (if a0_0 = a1_0 then (some (decide (a0_1 < a1_1))) else (some false))) = some r := h
  clear h
  by_cases c3 : a0_0 < a1_0
  · rw [if_pos c3] at H
    have c3b0 : decide (a0_0 < a1_0) = true := decide_eq_true c3
    clear c3
    obtain rfl := Option.some.inj H
    go_enter Tryd.func23, Tryd.ntmps23
    go_wp2_with (first | ((with_reducible refine gate_dst (N := 2) rfl ?_); refine box_event ?hg (N := 2) ?hd (cs := #[.int .i64 a0_0, .int .i64 a0_1, .string a0_2]) (t := 38) ?hr ?_; (case hd => rfl); (case hg => rfl); (case hr => first | (go_simp; done) | (go_simp; rfl)); intro gb121 hg w4 hbox hb; have n0_ := Aside0.mk (below_step (by repeat (first | (with_reducible first | exact HB.out | apply below_alloc | apply pw_below_drewN | apply below_drew1) | exact HB.out)) hb); have n1_ := Aside0.mk (hbox); have n2_ := Aside0.mk ((by rw [hg]; exact (below_size (by repeat (first | (with_reducible first | exact HB.out | apply below_alloc | apply pw_below_drewN | apply below_drew1) | exact HB.out))) : w.heap.size ≤ gb121)); have n3_ := Aside0.mk ((by rw [hg]; exact (below_size (by repeat (first | (with_reducible first | exact HB.out | apply below_alloc | apply pw_below_drewN | apply below_drew1) | exact HB.out))) : w.heap.size ≤ gb121)); clear HB; have HB := n0_; have BK121 := n1_; have GW121 := n2_; have GE121 := n3_; clear n0_ n1_ n2_ n3_; clear hb hbox hg) | ((with_reducible refine gate_dst (N := 3) rfl ?_); refine box_event ?hg (N := 3) ?hd (cs := #[.int .i64 a1_0, .int .i64 a1_1, .string a1_2]) (t := 38) ?hr ?_; (case hd => rfl); (case hg => rfl); (case hr => first | (go_simp; done) | (go_simp; rfl)); intro gb122 hg w5 hbox hb; have n0_ := Aside0.mk (blk_below (g := gb121) (o := .cells #[.int .i64 a0_0, .int .i64 a0_1, .string a0_2] 38 (0, 0)) (by (with_reducible repeat (first | refine blk_drewN ?_ _ | refine blk_drew ?_ | refine blk_alloc ?_ _)); exact BK121.out) hb); have n1_ := Aside0.mk (below_step (by repeat (first | (with_reducible first | exact HB.out | apply below_alloc | apply pw_below_drewN | apply below_drew1 | refine below_set ?_ GE121.out) | exact HB.out)) hb); have n2_ := Aside0.mk (hbox); have n3_ := Aside0.mk ((by rw [hg]; exact (below_size (by repeat (first | (with_reducible first | exact HB.out | apply below_alloc | apply pw_below_drewN | apply below_drew1 | refine below_set ?_ GE121.out) | exact HB.out))) : w.heap.size ≤ gb122)); have n4_ := Aside0.mk ((by rw [hg]; exact (below_size (by repeat (first | (with_reducible first | exact HB.out | apply below_alloc | apply pw_below_drewN | apply below_drew1 | refine below_set ?_ GE121.out) | exact HB.out))) : w.heap.size ≤ gb122)); have n5_ := Aside0.mk ((by rw [hg]; exact Nat.ne_of_lt (blk_lt (g := gb121) (o := .cells #[.int .i64 a0_0, .int .i64 a0_1, .string a0_2] 38 (0, 0)) (by (with_reducible repeat (first | refine blk_drewN ?_ _ | refine blk_drew ?_ | refine blk_alloc ?_ _)); exact BK121.out)) : gb121 ≠ gb122)); have n6_ := Aside0.mk ((by rw [hg]; exact Nat.ne_of_gt (blk_lt (g := gb121) (o := .cells #[.int .i64 a0_0, .int .i64 a0_1, .string a0_2] 38 (0, 0)) (by (with_reducible repeat (first | refine blk_drewN ?_ _ | refine blk_drew ?_ | refine blk_alloc ?_ _)); exact BK121.out)) : gb122 ≠ gb121)); clear BK121; clear HB; have BK121 := n0_; have HB := n1_; have BK122 := n2_; have GW122 := n3_; have GE122 := n4_; have NB121_122 := n5_; have NB122_121 := n6_; clear n0_ n1_ n2_ n3_ n4_ n5_ n6_; clear hb hbox hg; have hnb6 := NB121_122.out; have hnc6 := NB122_121.out; have hcz7_0 : w5.cell? ⟨gb121, 0, none⟩ = some (.int .i64 a0_0) := (blk_cell BK121.out 0).trans rfl; have hcz7_1 : w5.cell? ⟨gb121, 1, none⟩ = some (.int .i64 a0_1) := (blk_cell BK121.out 1).trans rfl; have hcz7_2 : w5.cell? ⟨gb121, 2, none⟩ = some (.string a0_2) := (blk_cell BK121.out 2).trans rfl; have hfz7_0 := blk_frozen BK121.out 0; have hfz7_1 := blk_frozen BK121.out 1; have hfz7_2 := blk_frozen BK121.out 2; have hcz8_0 : w5.cell? ⟨gb122, 0, none⟩ = some (.int .i64 a1_0) := (blk_cell BK122.out 0).trans rfl; have hcz8_1 : w5.cell? ⟨gb122, 1, none⟩ = some (.int .i64 a1_1) := (blk_cell BK122.out 1).trans rfl; have hcz8_2 : w5.cell? ⟨gb122, 2, none⟩ = some (.string a1_2) := (blk_cell BK122.out 2).trans rfl; have hfz8_0 := blk_frozen BK122.out 0; have hfz8_1 := blk_frozen BK122.out 1; have hfz8_2 := blk_frozen BK122.out 2))
    go_ret
    exact ⟨by first | rfl | (simp [errW_none, errW_some] <;> rfl) | (simp [*, errW_none, errW_some] <;> rfl), by repeat (first | (with_reducible first | exact HB.out | apply below_alloc | apply pw_below_drewN | apply below_drew1 | refine below_set ?_ GE121.out | refine below_set ?_ GE122.out) | exact HB.out)⟩
  · rw [if_neg c3] at H
    have c3b0 : decide (a0_0 < a1_0) = false := decide_eq_false c3
    clear c3
    by_cases c9 : a0_0 = a1_0
    · rw [if_pos c9] at H
      have c9b0 : (a0_0 == a1_0) = true := beq_iff_eq.mpr c9
      have c9b1 : (a0_0 != a1_0) = false := bne_eq_false_iff_eq.mpr c9
      clear c9
      obtain rfl := Option.some.inj H
      go_enter Tryd.func23, Tryd.ntmps23
      go_wp2_with (first | ((with_reducible refine gate_dst (N := 2) rfl ?_); refine box_event ?hg (N := 2) ?hd (cs := #[.int .i64 a0_0, .int .i64 a0_1, .string a0_2]) (t := 38) ?hr ?_; (case hd => rfl); (case hg => rfl); (case hr => first | (go_simp; done) | (go_simp; rfl)); intro gb121 hg w10 hbox hb; have n0_ := Aside0.mk (below_step (by repeat (first | (with_reducible first | exact HB.out | apply below_alloc | apply pw_below_drewN | apply below_drew1) | exact HB.out)) hb); have n1_ := Aside0.mk (hbox); have n2_ := Aside0.mk ((by rw [hg]; exact (below_size (by repeat (first | (with_reducible first | exact HB.out | apply below_alloc | apply pw_below_drewN | apply below_drew1) | exact HB.out))) : w.heap.size ≤ gb121)); have n3_ := Aside0.mk ((by rw [hg]; exact (below_size (by repeat (first | (with_reducible first | exact HB.out | apply below_alloc | apply pw_below_drewN | apply below_drew1) | exact HB.out))) : w.heap.size ≤ gb121)); clear HB; have HB := n0_; have BK121 := n1_; have GW121 := n2_; have GE121 := n3_; clear n0_ n1_ n2_ n3_; clear hb hbox hg) | ((with_reducible refine gate_dst (N := 3) rfl ?_); refine box_event ?hg (N := 3) ?hd (cs := #[.int .i64 a1_0, .int .i64 a1_1, .string a1_2]) (t := 38) ?hr ?_; (case hd => rfl); (case hg => rfl); (case hr => first | (go_simp; done) | (go_simp; rfl)); intro gb122 hg w11 hbox hb; have n0_ := Aside0.mk (blk_below (g := gb121) (o := .cells #[.int .i64 a0_0, .int .i64 a0_1, .string a0_2] 38 (0, 0)) (by (with_reducible repeat (first | refine blk_drewN ?_ _ | refine blk_drew ?_ | refine blk_alloc ?_ _)); exact BK121.out) hb); have n1_ := Aside0.mk (below_step (by repeat (first | (with_reducible first | exact HB.out | apply below_alloc | apply pw_below_drewN | apply below_drew1 | refine below_set ?_ GE121.out) | exact HB.out)) hb); have n2_ := Aside0.mk (hbox); have n3_ := Aside0.mk ((by rw [hg]; exact (below_size (by repeat (first | (with_reducible first | exact HB.out | apply below_alloc | apply pw_below_drewN | apply below_drew1 | refine below_set ?_ GE121.out) | exact HB.out))) : w.heap.size ≤ gb122)); have n4_ := Aside0.mk ((by rw [hg]; exact (below_size (by repeat (first | (with_reducible first | exact HB.out | apply below_alloc | apply pw_below_drewN | apply below_drew1 | refine below_set ?_ GE121.out) | exact HB.out))) : w.heap.size ≤ gb122)); have n5_ := Aside0.mk ((by rw [hg]; exact Nat.ne_of_lt (blk_lt (g := gb121) (o := .cells #[.int .i64 a0_0, .int .i64 a0_1, .string a0_2] 38 (0, 0)) (by (with_reducible repeat (first | refine blk_drewN ?_ _ | refine blk_drew ?_ | refine blk_alloc ?_ _)); exact BK121.out)) : gb121 ≠ gb122)); have n6_ := Aside0.mk ((by rw [hg]; exact Nat.ne_of_gt (blk_lt (g := gb121) (o := .cells #[.int .i64 a0_0, .int .i64 a0_1, .string a0_2] 38 (0, 0)) (by (with_reducible repeat (first | refine blk_drewN ?_ _ | refine blk_drew ?_ | refine blk_alloc ?_ _)); exact BK121.out)) : gb122 ≠ gb121)); clear BK121; clear HB; have BK121 := n0_; have HB := n1_; have BK122 := n2_; have GW122 := n3_; have GE122 := n4_; have NB121_122 := n5_; have NB122_121 := n6_; clear n0_ n1_ n2_ n3_ n4_ n5_ n6_; clear hb hbox hg; have hnb12 := NB121_122.out; have hnc12 := NB122_121.out; have hcz13_0 : w11.cell? ⟨gb121, 0, none⟩ = some (.int .i64 a0_0) := (blk_cell BK121.out 0).trans rfl; have hcz13_1 : w11.cell? ⟨gb121, 1, none⟩ = some (.int .i64 a0_1) := (blk_cell BK121.out 1).trans rfl; have hcz13_2 : w11.cell? ⟨gb121, 2, none⟩ = some (.string a0_2) := (blk_cell BK121.out 2).trans rfl; have hfz13_0 := blk_frozen BK121.out 0; have hfz13_1 := blk_frozen BK121.out 1; have hfz13_2 := blk_frozen BK121.out 2; have hcz14_0 : w11.cell? ⟨gb122, 0, none⟩ = some (.int .i64 a1_0) := (blk_cell BK122.out 0).trans rfl; have hcz14_1 : w11.cell? ⟨gb122, 1, none⟩ = some (.int .i64 a1_1) := (blk_cell BK122.out 1).trans rfl; have hcz14_2 : w11.cell? ⟨gb122, 2, none⟩ = some (.string a1_2) := (blk_cell BK122.out 2).trans rfl; have hfz14_0 := blk_frozen BK122.out 0; have hfz14_1 := blk_frozen BK122.out 1; have hfz14_2 := blk_frozen BK122.out 2))
      go_ret
      exact ⟨by first | rfl | (simp [errW_none, errW_some] <;> rfl) | (simp [*, errW_none, errW_some] <;> rfl), by repeat (first | (with_reducible first | exact HB.out | apply below_alloc | apply pw_below_drewN | apply below_drew1 | refine below_set ?_ GE121.out | refine below_set ?_ GE122.out) | exact HB.out)⟩
    · rw [if_neg c9] at H
      have c9b0 : (a0_0 == a1_0) = false := beq_eq_false_iff_ne.mpr c9
      have c9b1 : (a0_0 != a1_0) = true := bne_iff_ne.mpr c9
      obtain rfl := Option.some.inj H
      go_enter Tryd.func23, Tryd.ntmps23
      go_wp2_with (first | ((with_reducible refine gate_dst (N := 2) rfl ?_); refine box_event ?hg (N := 2) ?hd (cs := #[.int .i64 a0_0, .int .i64 a0_1, .string a0_2]) (t := 38) ?hr ?_; (case hd => rfl); (case hg => rfl); (case hr => first | (go_simp; done) | (go_simp; rfl)); intro gb121 hg w15 hbox hb; have n0_ := Aside0.mk (below_step (by repeat (first | (with_reducible first | exact HB.out | apply below_alloc | apply pw_below_drewN | apply below_drew1) | exact HB.out)) hb); have n1_ := Aside0.mk (hbox); have n2_ := Aside0.mk ((by rw [hg]; exact (below_size (by repeat (first | (with_reducible first | exact HB.out | apply below_alloc | apply pw_below_drewN | apply below_drew1) | exact HB.out))) : w.heap.size ≤ gb121)); have n3_ := Aside0.mk ((by rw [hg]; exact (below_size (by repeat (first | (with_reducible first | exact HB.out | apply below_alloc | apply pw_below_drewN | apply below_drew1) | exact HB.out))) : w.heap.size ≤ gb121)); clear HB; have HB := n0_; have BK121 := n1_; have GW121 := n2_; have GE121 := n3_; clear n0_ n1_ n2_ n3_; clear hb hbox hg) | ((with_reducible refine gate_dst (N := 3) rfl ?_); refine box_event ?hg (N := 3) ?hd (cs := #[.int .i64 a1_0, .int .i64 a1_1, .string a1_2]) (t := 38) ?hr ?_; (case hd => rfl); (case hg => rfl); (case hr => first | (go_simp; done) | (go_simp; rfl)); intro gb122 hg w16 hbox hb; have n0_ := Aside0.mk (blk_below (g := gb121) (o := .cells #[.int .i64 a0_0, .int .i64 a0_1, .string a0_2] 38 (0, 0)) (by (with_reducible repeat (first | refine blk_drewN ?_ _ | refine blk_drew ?_ | refine blk_alloc ?_ _)); exact BK121.out) hb); have n1_ := Aside0.mk (below_step (by repeat (first | (with_reducible first | exact HB.out | apply below_alloc | apply pw_below_drewN | apply below_drew1 | refine below_set ?_ GE121.out) | exact HB.out)) hb); have n2_ := Aside0.mk (hbox); have n3_ := Aside0.mk ((by rw [hg]; exact (below_size (by repeat (first | (with_reducible first | exact HB.out | apply below_alloc | apply pw_below_drewN | apply below_drew1 | refine below_set ?_ GE121.out) | exact HB.out))) : w.heap.size ≤ gb122)); have n4_ := Aside0.mk ((by rw [hg]; exact (below_size (by repeat (first | (with_reducible first | exact HB.out | apply below_alloc | apply pw_below_drewN | apply below_drew1 | refine below_set ?_ GE121.out) | exact HB.out))) : w.heap.size ≤ gb122)); have n5_ := Aside0.mk ((by rw [hg]; exact Nat.ne_of_lt (blk_lt (g := gb121) (o := .cells #[.int .i64 a0_0, .int .i64 a0_1, .string a0_2] 38 (0, 0)) (by (with_reducible repeat (first | refine blk_drewN ?_ _ | refine blk_drew ?_ | refine blk_alloc ?_ _)); exact BK121.out)) : gb121 ≠ gb122)); have n6_ := Aside0.mk ((by rw [hg]; exact Nat.ne_of_gt (blk_lt (g := gb121) (o := .cells #[.int .i64 a0_0, .int .i64 a0_1, .string a0_2] 38 (0, 0)) (by (with_reducible repeat (first | refine blk_drewN ?_ _ | refine blk_drew ?_ | refine blk_alloc ?_ _)); exact BK121.out)) : gb122 ≠ gb121)); clear BK121; clear HB; have BK121 := n0_; have HB := n1_; have BK122 := n2_; have GW122 := n3_; have GE122 := n4_; have NB121_122 := n5_; have NB122_121 := n6_; clear n0_ n1_ n2_ n3_ n4_ n5_ n6_; clear hb hbox hg; have hnb17 := NB121_122.out; have hnc17 := NB122_121.out; have hcz18_0 : w16.cell? ⟨gb121, 0, none⟩ = some (.int .i64 a0_0) := (blk_cell BK121.out 0).trans rfl; have hcz18_1 : w16.cell? ⟨gb121, 1, none⟩ = some (.int .i64 a0_1) := (blk_cell BK121.out 1).trans rfl; have hcz18_2 : w16.cell? ⟨gb121, 2, none⟩ = some (.string a0_2) := (blk_cell BK121.out 2).trans rfl; have hfz18_0 := blk_frozen BK121.out 0; have hfz18_1 := blk_frozen BK121.out 1; have hfz18_2 := blk_frozen BK121.out 2; have hcz19_0 : w16.cell? ⟨gb122, 0, none⟩ = some (.int .i64 a1_0) := (blk_cell BK122.out 0).trans rfl; have hcz19_1 : w16.cell? ⟨gb122, 1, none⟩ = some (.int .i64 a1_1) := (blk_cell BK122.out 1).trans rfl; have hcz19_2 : w16.cell? ⟨gb122, 2, none⟩ = some (.string a1_2) := (blk_cell BK122.out 2).trans rfl; have hfz19_0 := blk_frozen BK122.out 0; have hfz19_1 := blk_frozen BK122.out 1; have hfz19_2 := blk_frozen BK122.out 2))
      go_ret
      exact ⟨by first | rfl | (simp [errW_none, errW_some] <;> rfl) | (simp [*, errW_none, errW_some] <;> rfl), by repeat (first | (with_reducible first | exact HB.out | apply below_alloc | apply pw_below_drewN | apply below_drew1 | refine below_set ?_ GE121.out | refine below_set ?_ GE122.out) | exact HB.out)⟩

/-! ### spec_Sorted -/

def toE (x : S38) : SortM.E := ⟨x.f0, x.f1, x.f2⟩
def ofE (x : SortM.E) : S38 := ⟨x.a, x.b, x.s⟩
theorem ofE_toE (x : S38) : ofE (toE x) = x := rfl
theorem toE_ofE (x : SortM.E) : toE (ofE x) = x := rfl

def spec_Sorted.f (l0 : List S38) : Option (List S38) := if l0.length < 4398046511104 then some ((SortU.sortE (l0.map toE)).map ofE) else none

def accE (l0 : List S38) (k : Nat) : List SortM.E := SortU.sortE ((l0.take k).map toE)

theorem insE_length (l : List SortM.E) (e : SortM.E) : (SortU.insE l e).length = l.length + 1 := by
  unfold SortU.insE
  have := SortU.insAt_le l e l.length
  simp; omega

theorem sortE_snoc (l : List SortM.E) (e : SortM.E) : SortU.sortE (l ++ [e]) = SortU.insE (SortU.sortE l) e := by
  unfold SortU.sortE; rw [List.foldl_append]; rfl

theorem accE_succ (l0 : List S38) (k : Nat) (h : k < l0.length) : accE l0 (k + 1) = SortU.insE (accE l0 k) (toE (l0.getD k z38)) := by
  unfold accE
  rw [List.take_succ_eq_append_getElem h, List.map_append, List.map_singleton, sortE_snoc]
  simp [List.getD, List.getElem?_eq_getElem h]

theorem sortE_length (l : List SortM.E) : (SortU.sortE l).length = l.length := by
  have : ∀ (l acc : List SortM.E), (l.foldl SortU.insE acc).length = acc.length + l.length := by
    intro l
    induction l with
    | nil => intro acc; simp
    | cons e l ih => intro acc; rw [List.foldl_cons, ih, insE_length]; simp; omega
  simpa [SortU.sortE] using this l []

theorem accE_length (l0 : List S38) (k : Nat) (h : k ≤ l0.length) : (accE l0 k).length = k := by
  unfold accE; rw [sortE_length]; simp; omega

theorem owns_R {w : World} {base g n cap : Nat} {cur : Array Value} {xs : List SortM.E} (hh : w.heap[g]? = some (.cells cur 38 (0, 0))) (hb : base ≤ g) (h1 : n ≤ cap) (h2 : cap ≤ maxLen) (h3 : cur.size = cap * 3)
    (h4 : cur.toList.take (n * 3) = SortU.flat xs) (h5 : xs.length = n) : Kd.R k38 38 w base (fun _ => True) (.slice (some ⟨g, 0, none⟩) n cap) (xs.map ofE) := by
  subst h5
  refine ⟨fun _ _ => trivial, SortU.flat xs, ?_, ?_, fun j p hj => ?_⟩
  · rw [List.length_map]
    exact ⟨SortU.flat_length xs, .inr ⟨g, cap, cur, rfl, hb, hh, h1, h2, h3, h4⟩⟩
  · rw [List.length_map]; exact SortU.flat_length xs
  · rw [List.getElem?_map] at hj
    cases hx : xs[j]? with
    | none => rw [hx] at hj; cases hj
    | some q =>
      rw [hx] at hj
      obtain rfl := Option.some.inj hj
      have := SortU.flat_get xs j q hx
      rw [show k38.sz = 3 from rfl, this]
      exact k38_mkM _ _ _ (ofE q)

theorem ne_of_hat {v1 v : Value} {W : World} {gb : Nat} (hat : v1.ownBlock = v.ownBlock ∨ ∃ b, v1.ownBlock = some b ∧ W.heap.size ≤ b) (h : some gb ≠ v.ownBlock) (hl : gb < W.heap.size) : some gb ≠ v1.ownBlock := by
  rcases hat with h1 | ⟨b1, h1, hb1⟩
  · rw [h1]; exact h
  · rw [h1]; intro hk; injection hk with hk; omega

theorem finR {w11 : World} {base g m k cap : Nat} {x : S38} {l0 : List S38} {es : List SortM.E} {cur : Array Value} (hx : x = rd_T38 l0 (k : Int)) (hI : SortU.insAt es (toE x) es.length = m)
    (hg : Hid (w11.heap[g]? = some (.cells (splice cur.toList ((m + 1) * 3) (SortU.flat (es.drop m))).toArray 38 (0, 0)))) (hsl : (splice cur.toList ((m + 1) * 3) (SortU.flat (es.drop m))).length = cap * 3)
    (ht : cur.toList.take ((es.length + 1) * 3) = SortU.flat (es ++ [toE x])) (hcl : cur.toList.length = cap * 3) (hml : m ≤ es.length) (hgb : base ≤ g) (hncap : es.length + 1 ≤ cap) (hcapm : cap ≤ 9223372036854775807) :
    Kd.R k38 38 (((w11.setCell ⟨g, m * 3, none⟩ (.int .i64 x.f0)).setCell ⟨g, m * 3 + 1, none⟩ (.int .i64 x.f1)).setCell ⟨g, m * 3 + 2, none⟩ (.string x.f2)) base (fun _ => True) (.slice (some ⟨g, 0, none⟩) (es.length + 1) cap) ((SortU.insE es (toE (l0.getD k z38))).map ofE) := by
  have e : toE (l0.getD k z38) = toE x := by rw [hx]; rfl
  rw [e]
  have e2 : SortU.insE es (toE x) = es.take m ++ toE x :: es.drop m := by unfold SortU.insE; rw [hI]
  rw [e2]
  have h1 := blk_set (blk_set (blk_set hg.out (m * 3) (.int .i64 x.f0)) (m * 3 + 1) (.int .i64 x.f1)) (m * 3 + 2) (.string x.f2)
  rw [List.setIfInBounds_toArray, List.setIfInBounds_toArray, List.setIfInBounds_toArray] at h1
  refine owns_R h1 hgb hncap (by unfold maxLen; exact hcapm) ?_ ?_ (by simp; omega)
  · rw [List.size_toArray]
    simp only [List.length_set]
    exact hsl
  · exact SortU.put_row cur.toList es (toE x) m hml ht

theorem elem_of (es : List SortM.E) (m : Nat) (h0 : 0 < m) (hm : m ≤ es.length) : toE (rd_T38 (es.map ofE) ((m : Int) - 1)) = es[m - 1]?.getD default := by
  unfold rd_T38
  rw [show ((m : Int) - 1).toNat = m - 1 by omega, List.getD_eq_getElem?_getD, List.getElem?_map, List.getElem?_eq_getElem (by omega)]
  rfl

theorem before_lt (x y : S38) : spec_Before.f x.f0 x.f1 x.f2 y.f0 y.f1 y.f2 = some (SortM.lt (toE x) (toE y)) := by
  unfold spec_Before.f SortM.lt toE
  by_cases h : x.f0 < y.f0
  · simp [h]
  · by_cases h2 : x.f0 = y.f0 <;> simp [h, h2]

set_option maxHeartbeats 8000000 in
set_option maxRecDepth 100000 in
theorem spec_Sorted.calls (A0 : Option Addr) (c0 : Nat) (l0 : List (S38)) (r : List (S38)) (w : World) (hr0 : Kd.C k38 w A0 l0.length l0) (hc0 : l0.length ≤ c0) (h : spec_Sorted.f l0 = some r) :
    Calls Tryd.prog 15 #[.slice A0 l0.length c0] w fun e w' => ∃ v0_ : Value, e = .returned (v0_) ∧ Kd.R k38 38 w' w.heap.size (fun _ => True) v0_ r ∧ Below w.heap.size w w' := by
  have hlen : l0.length < 4398046511104 := by
    unfold spec_Sorted.f at h; split at h
    · assumption
    · cases h
  have hr : r = (accE l0 l0.length).map ofE := by
    unfold spec_Sorted.f at h; rw [if_pos hlen] at h
    unfold accE; rw [List.take_length]; exact (Option.some.inj h).symm
  have HR := Lib.hid hr
  have HR0 := Aside0.mk hr0
  have HC0 := Aside0.mk hc0
  clear hr0 hc0 hr h
  have HB := Aside0.mk (Below.refl w.heap.size w)
  go_enter Tryd.func15, Tryd.ntmps15
  go_wp2_with (first | ((with_reducible refine gate_dst (N := 7) rfl ?_); refine Kd.R_lit k38 _ 38 ?hg (N := 7) ?hd (xs := ([] : List S38)) (inner := []) (ok := fun _ => True) (okp := fun _ => True) ?hr ?hp (fun _ hk => hk) trivial (Below.refl _ _) (Nat.le_refl _) (by simp) ?_; (case hd => rfl); (case hg => rfl); (case hr => first | (go_simp; done) | (go_simp; rfl)); (case hp => exact (Reps.none _ _)); intro v109 w2 ho3 hb hg_ hnew_; clear hg_ hnew_; have HO := Aside0.mk ho3; clear ho3; have HB2 := Aside0.mk hb; clear hb))
  go_loopw [3, 10] (fun v3 v10 wr => ∃ k : Nat, v10 = .int .i64 k ∧ k ≤ l0.length ∧ Aside0 (Kd.R k38 38 wr w.heap.size (fun _ => True) v3 ((accE l0 k).map ofE)) ∧ Aside0 (Below w.heap.size w wr)) (fun _ v10 _ => l0.length - (intOf v10).toNat)
  case atStart => exact ⟨0, rfl, by omega, ⟨HO.out⟩, ⟨HB2.out⟩⟩
  case round =>
    clear HO HB2
    obtain ⟨k, rfl, hk, HO, HB⟩ := hrel
    by_cases hlt : k < l0.length
    · obtain ⟨ad, e1, hx0, hx1, hx2⟩ := at_T38 HR0.out (k : Int) (by omega) (by omega)
      cases e1
      replace hx0 := (HB.out.cell (World.block_lt_of_cell? w _ hx0)).trans hx0
      replace hx1 := (HB.out.cell (World.block_lt_of_cell? w _ hx1)).trans hx1
      replace hx2 := (HB.out.cell (World.block_lt_of_cell? w _ hx2)).trans hx2
      obtain ⟨x, hx⟩ : ∃ x, x = rd_T38 l0 (k : Int) := ⟨_, rfl⟩
      rw [← hx, Int.toNat_natCast] at hx0 hx1 hx2
      have HX := Lib.hid hx
      clear hx
      obtain ⟨es, hes⟩ : ∃ es, es = accE l0 k := ⟨_, rfl⟩
      have hesl : es.length = k := by rw [hes]; exact accE_length l0 k hk
      rw [← hes] at HO
      have HES := Lib.hid hes
      have HESL := Lib.hid hesl
      clear hes hesl
      obtain ⟨A3, c3, rfl, hc3, hC3⟩ := Kd.R_reads HO.out
      rw [List.length_map] at HO hc3 hC3
      have HC3 := Aside0.mk hC3
      clear hC3
      go_upto_block 2 with (first | ((with_reducible refine gate_dst (N := 5) rfl ?_); refine box_event ?hg (N := 5) ?hd (cs := #[.int .i64 0, .int .i64 0, .string (⟨#[]⟩ : ByteArray)]) (t := 38) ?hr ?_; (case hd => rfl); (case hg => rfl); (case hr => first | (go_simp; done) | (go_simp; rfl)); intro gb hgb w8 hbox hb; have GE := Aside0.mk (by rw [hgb]; exact HB.out.size : w.heap.size ≤ gb); have hc0_ : w8.cell? ⟨gb, 0, none⟩ = some (.int .i64 0) := (blk_cell hbox 0).trans rfl; have hc1_ : w8.cell? ⟨gb, 1, none⟩ = some (.int .i64 0) := (blk_cell hbox 1).trans rfl; have hc2_ : w8.cell? ⟨gb, 2, none⟩ = some (.string (⟨#[]⟩ : ByteArray)) := (blk_cell hbox 2).trans rfl; have hf0_ := blk_frozen hbox 0; have hf1_ := blk_frozen hbox 1; have hf2_ := blk_frozen hbox 2; have BK := Aside0.mk hbox; have HGB := Lib.hid hgb; clear hgb; have HW8 := Aside0.mk hb; clear hbox hb))
      obtain ⟨wq, hwq⟩ : ∃ wq, wq = ((w8.setCell ⟨gb, 0, none⟩ (.int .i64 x.f0)).setCell ⟨gb, 1, none⟩ (.int .i64 x.f1)).setCell ⟨gb, 2, none⟩ (.string x.f2) := ⟨_, rfl⟩
      have HOq := Aside0.mk (by
        rw [hwq]
        have h1 := Kd.R_below (Kd.R_bound HO.out) HW8.out
        exact Kd.R_mono (Kd.R_far (p := ⟨gb, 2, none⟩) (Kd.R_far (p := ⟨gb, 1, none⟩) (Kd.R_far (p := ⟨gb, 0, none⟩) h1 (fun k hk => by have := hk.2.2.1; rw [HGB.out]; exact Nat.ne_of_lt this) _) (fun k hk => by have := hk.2.2.1; rw [HGB.out]; exact Nat.ne_of_lt this) _) (fun k hk => by have := hk.2.2.1; rw [HGB.out]; exact Nat.ne_of_lt this) _) (fun _ _ => trivial) : Kd.R k38 38 wq w.heap.size (fun _ => True) (.slice A3 es.length c3) (es.map ofE))
      have HBq := Aside0.mk (by
        rw [hwq]
        exact ((below_step HB.out HW8.out).setCell GE.out _ |>.setCell GE.out _ |>.setCell GE.out _) : Below w.heap.size w wq)
      have BKq := Aside0.mk (by
        rw [hwq]
        have := blk_set (blk_set (blk_set BK.out 0 (.int .i64 x.f0)) 1 (.int .i64 x.f1)) 2 (.string x.f2)
        simpa using this : wq.heap[gb]? = some (.cells #[.int .i64 x.f0, .int .i64 x.f1, .string x.f2] 38 (0, 0)))
      have HNE := Aside0.mk (fun hk => by
        obtain ⟨inner, hown, _⟩ := HO.out.2
        have := own_lt hown gb hk.symm
        rw [HGB.out] at this
        exact absurd this (Nat.lt_irrefl _) : some gb ≠ (Value.slice A3 es.length c3).ownBlock)
      rw [← hwq]
      clear hwq HW8 BK HGB HO HB HC3 hc0_ hc1_ hc2_ hf0_ hf1_ hf2_
      go_cut [6] from 16 to 28 (fun v6 wx => ∃ m : Nat, v6 = .int .i64 m ∧ Hid (SortU.insAt es (toE x) es.length = m) ∧ Aside0 (Kd.R k38 38 wx w.heap.size (fun _ => True) (.slice A3 es.length c3) (es.map ofE)) ∧ Aside0 (Below w.heap.size w wx) ∧ Aside0 (wx.heap[gb]? = some (.cells #[.int .i64 x.f0, .int .i64 x.f1, .string x.f2] 38 (0, 0))))
      case first =>
        go_wp2_with fail
        go_loopw [6] (fun v6 wr2 => ∃ m : Nat, v6 = .int .i64 m ∧ m ≤ es.length ∧ Hid (SortU.insAt es (toE x) es.length = SortU.insAt es (toE x) m) ∧ Aside0 (Kd.R k38 38 wr2 w.heap.size (fun _ => True) (.slice A3 es.length c3) (es.map ofE)) ∧ Aside0 (Below w.heap.size w wr2) ∧ Aside0 (wr2.heap[gb]? = some (.cells #[.int .i64 x.f0, .int .i64 x.f1, .string x.f2] 38 (0, 0)))) (fun v6 _ => (intOf v6).toNat)
        case atStart => exact ⟨es.length, rfl, Nat.le_refl _, rfl, HOq, HBq, BKq⟩
        case round =>
          clear HOq HBq BKq
          obtain ⟨m, rfl, hm, hI, HO, HB, BK⟩ := hrel
          have hb0 : wr.cell? ⟨gb, 0, none⟩ = some (.int .i64 x.f0) := (blk_cell BK.out 0).trans rfl
          have hb1 : wr.cell? ⟨gb, 1, none⟩ = some (.int .i64 x.f1) := (blk_cell BK.out 1).trans rfl
          have hb2 : wr.cell? ⟨gb, 2, none⟩ = some (.string x.f2) := (blk_cell BK.out 2).trans rfl
          by_cases hm0 : 0 < m
          · go_wp2
            have hd : decide ((0 : Int) < (m : Int)) = true := decide_eq_true (by omega)
            have hC := (Kd.R_reads' HO.out).2.2
            obtain ⟨ad2, e2, hy0, hy1, hy2⟩ := at_T38 hC ((m : Int) - 1) (by omega) (by rw [List.length_map]; omega)
            cases e2
            clear hC
            obtain ⟨y, hy⟩ : ∃ y, y = rd_T38 (es.map ofE) ((m : Int) - 1) := ⟨_, rfl⟩
            rw [← hy, show ((m : Int) - 1).toNat = m - 1 by omega] at hy0 hy1 hy2
            have HY := Lib.hid hy
            clear hy
            have s2 : (1 : Int) ≤ (m : Int) := by omega
            have s4 : (m : Int) - 1 < (es.length : Int) := by omega
            have hlb : es.length < 4398046511104 := by rw [HESL.out]; omega
            have s3 : ((m : Int) - 1).toNat = m - 1 := by omega
            have s1 : IntKind.i64.wrap ((m : Int) - 1) = (m : Int) - 1 := IntWalk.i64_in _ (by omega)
            go_still_tail 9, (by kernel_rfl)
            clear s1 s2 s3 s4
            change wpList _ _ _ _ _ wr.drew
            obtain ⟨b, hbv⟩ : ∃ b, b = SortM.lt (toE x) (toE y) := ⟨_, rfl⟩
            have hcall := fun W => spec_Before.calls x.f0 x.f1 x.f2 y.f0 y.f1 y.f2 b W (by rw [hbv]; exact before_lt x y)
            have HBV := Lib.hid hbv
            clear hbv
            cases b with
            | true =>
              go_wp2_with fail
              refine (hcall _).mono ?_
              rintro e w3 ⟨rfl, hb3⟩
              have HB3 := Aside0.mk hb3
              clear hb3
              go_wp2_with fail
              go_roundw
              case rel => exact ⟨m - 1, by congr 1; omega, by omega, by show _ = _; rw [hI.out]; exact SortU.insAt_yes es (toE x) m hm0 (by rw [← elem_of es m hm0 hm, ← HY.out, ← HBV.out]), ⟨Kd.R_below (Kd.R_drew HO.out) HB3.out⟩, ⟨below_step (below_drew HB.out) HB3.out⟩, ⟨blk_below (blk_drew BK.out) HB3.out⟩⟩
              case measure => simp [intOf]; omega
            | false =>
              go_wp2_with fail
              refine (hcall _).mono ?_
              rintro e w3 ⟨rfl, hb3⟩
              have HB3 := Aside0.mk hb3
              clear hb3
              go_wp2_with fail
              go_meet
              exact ⟨m, rfl, by show _ = _; rw [hI.out]; exact SortU.insAt_no es (toE x) m hm0 (by rw [← elem_of es m hm0 hm, ← HY.out, ← HBV.out]), ⟨Kd.R_below (Kd.R_drew HO.out) HB3.out⟩, ⟨below_step (below_drew HB.out) HB3.out⟩, ⟨blk_below (blk_drew BK.out) HB3.out⟩⟩
          · obtain rfl : m = 0 := by omega
            have hd : decide ((0 : Int) < 0) = false := rfl
            go_wp2
            go_quiet (fail)
            go_wp2
            go_meet
            exact ⟨0, rfl, hI, ⟨Kd.R_drewN HO.out _⟩, ⟨pw_below_drewN HB.out _⟩, ⟨BK.out⟩⟩
      case rest =>
        clear HOq HBq BKq
        obtain ⟨m, rfl, hI, HO, HB, BK⟩ := hcut
        have hb0 : wc.cell? ⟨gb, 0, none⟩ = some (.int .i64 x.f0) := (blk_cell BK.out 0).trans rfl
        have hb1 : wc.cell? ⟨gb, 1, none⟩ = some (.int .i64 x.f1) := (blk_cell BK.out 1).trans rfl
        have hb2 : wc.cell? ⟨gb, 2, none⟩ = some (.string x.f2) := (blk_cell BK.out 2).trans rfl
        have hml : m ≤ es.length := by rw [← hI.out]; exact SortU.insAt_le es (toE x) es.length
        have hlb : es.length < 4398046511104 := by rw [HESL.out]; omega
        go_upto_region 9 with ((with_reducible refine gate_builtin (b := .append) (xs := #[.tmp 29, .tmp 31]) rfl ?_); at_builtin; refine Kd.R_append k38 (w0 := w) w.heap.size rfl (.tmp 29) (.tmp 31) 22 38 (.agg #[(.int .i64 0), (.int .i64 0), (.string ⟨#[]⟩)]) 32 rfl Tryd.underlying22 info38 rfl (by decide) (by omega) (.slice A3 es.length c3) (es.map ofE) x [.int .i64 x.f0, .int .i64 x.f1, .string x.f2] (fun _ => True) (fun _ => False) rfl (by first | (go_simp; done) | (go_simp; rfl)) ?aP (fun _ hk => hk.elim) (fun _ _ => trivial) HO.out HB.out HB.out.size ?aL ?_; (case aP => exact k38_mkM _ _ _ x); (case aL => rw [List.length_map]; omega); intro v114 w10 ho hb hg hat; have BK10 := Aside0.mk (blk_grown BK.out hg HNE.out); have HN10 := Aside0.mk (ne_of_hat hat HNE.out (blk_lt BK.out)); have HO10 := Aside0.mk ho; have HB10 := Aside0.mk hb; clear ho hb hg hat)
        clear HO HB BK
        rw [show es.map ofE ++ [x] = (es ++ [toE x]).map ofE by simp [ofE_toE]] at HO10
        obtain ⟨inner, hown, hreps⟩ := HO10.out.2
        have hinner : inner = SortU.flat (es ++ [toE x]) := by
          refine SortU.flat_of _ inner (by have := hreps.1; rw [show k38.sz = 3 from rfl] at this; simpa using this) fun j p hj => ?_
          exact k38_openM (hreps.2 j (ofE p) (by rw [List.getElem?_map, hj]; rfl))
        subst hinner
        rcases hown.2 with ⟨_, hz⟩ | ⟨g, cap, cur, hv, hgb, hheap, hncap, hcapm, hcsz, htake⟩
        · simp at hz
        · have hlen1 : ((es ++ [toE x]).map ofE).length = es.length + 1 := by simp
          rw [hlen1] at hv hncap htake
          rw [show k38.sz = 3 from rfl] at hcsz htake
          clear hlen1 hown hreps
          have HH := Aside0.mk hheap
          have HT := Lib.hid htake
          have HC := Lib.hid hcsz
          unfold maxLen at hcapm
          clear hheap htake hcsz
          subst hv
          have HCL : Hid (cur.toList.length = cap * 3) := by show _ = _; rw [Array.length_toList]; exact HC.out
          have hncap1 : ¬ cap = m := by omega
          have hn1 : (1 : Int) ≤ (m : Int) + 1 := by omega
          have hn2 : (0 : Int) ≤ (m : Int) + 1 := by omega
          have hn3 : (m : Int) + 1 ≤ (es.length : Int) + 1 := by omega
          have hn4 : ((m : Int) + 1).toNat = m + 1 := by omega
          have hn5 : IntKind.i64.wrap ((m : Int) + 1) = (m : Int) + 1 := IntWalk.i64_in _ (by omega)
          have hn6 : (m : Int) ≤ (es.length : Int) + 1 := by omega
          have hn7 : (m : Int) ≤ (es.length : Int) := by omega
          by_cases hend : cap = m + 1
          · have hcm : cap - (m + 1) = 0 := by omega
            go_still_tail 7, (by kernel_rfl)
            change wpList _ _ _ _ _ w10.drew
            refine CopyK.wpList_copyK rfl (.tmp 36) (.tmp 39) 22 22 rfl 38 3 Tryd.underlying22 (by kernel_rfl) (by omega) _ _ _ _ _ _ rfl rfl g ((m + 1) * 3) cur.toList 38 ?hg (SortU.flat (es.drop m)) ?hn ?hpos ?hfit (SortU.flat_one _) w.heap.size w ?hb hgb ?_
            case hg => rw [Array.toArray_toList]; exact HH.out
            case hn => rw [SortU.flat_length, List.length_drop]; congr 1; simp only [Nat.min_def]; split <;> omega
            case hpos => intro hp; exfalso; rw [SortU.flat_length, List.length_drop] at hp; omega
            case hfit => rw [SortU.flat_length, List.length_drop, HCL.out]; omega
            case hb => exact below_drew HB10.out
            intro w11 hg11 hb11 hk11
            have hgg : gb ≠ g := fun hh => HN10.out (by rw [hh]; rfl)
            have BK11 : w11.heap[gb]? = some (.cells #[.int .i64 x.f0, .int .i64 x.f1, .string x.f2] 38 (0, 0)) := (hk11 gb hgg).trans BK10.out
            have hb0 : w11.cell? ⟨gb, 0, none⟩ = some (.int .i64 x.f0) := (blk_cell BK11 0).trans rfl
            have hb1 : w11.cell? ⟨gb, 1, none⟩ = some (.int .i64 x.f1) := (blk_cell BK11 1).trans rfl
            have hb2 : w11.cell? ⟨gb, 2, none⟩ = some (.string x.f2) := (blk_cell BK11 2).trans rfl
            have hsl : (splice cur.toList ((m + 1) * 3) (SortU.flat (es.drop m))).length = cap * 3 := by
              rw [length_splice _ _ _ (by rw [SortU.flat_length, List.length_drop, HCL.out]; omega), HCL.out]
            obtain ⟨q0, hq0⟩ : ∃ q, w11.cell? ⟨g, m * 3, none⟩ = some q := ⟨_, (blk_cell hg11.out (m * 3)).trans (by rw [List.getElem?_toArray]; exact List.getElem?_eq_getElem (by omega))⟩
            obtain ⟨q1, hq1⟩ : ∃ q, w11.cell? ⟨g, m * 3 + 1, none⟩ = some q := ⟨_, (blk_cell hg11.out (m * 3 + 1)).trans (by rw [List.getElem?_toArray]; exact List.getElem?_eq_getElem (by omega))⟩
            obtain ⟨q2, hq2⟩ : ∃ q, w11.cell? ⟨g, m * 3 + 2, none⟩ = some q := ⟨_, (blk_cell hg11.out (m * 3 + 2)).trans (by rw [List.getElem?_toArray]; exact List.getElem?_eq_getElem (by omega))⟩
            have hf0 := blk_frozen hg11.out (m * 3)
            have hf1 := blk_frozen hg11.out (m * 3 + 1)
            have hf2 := blk_frozen hg11.out (m * 3 + 2)
            have HB11 := Aside0.mk hb11
            have HSL := Lib.hid hsl
            clear hk11 hb11 hsl BK11 hn5 hn4
            go_wp2_with fail
            go_roundw
            case rel => exact ⟨k + 1, by go_num, by omega, ⟨by rw [accE_succ l0 k hlt, ← HES.out]; have h9 := finR HX.out hI.out hg11 HSL.out HT.out HCL.out hml hgb hncap hcapm; rw [hend] at h9; exact h9⟩, ⟨((HB11.out.setCell hgb _).setCell hgb _).setCell hgb _⟩⟩
            case measure => simp [intOf]; omega
          · go_still_tail 7, (by kernel_rfl)
            change wpList _ _ _ _ _ w10.drew
            refine CopyK.wpList_copyK rfl (.tmp 36) (.tmp 39) 22 22 rfl 38 3 Tryd.underlying22 (by kernel_rfl) (by omega) _ _ _ _ _ _ rfl rfl g ((m + 1) * 3) cur.toList 38 ?hg (SortU.flat (es.drop m)) ?hn ?hpos ?hfit (SortU.flat_one _) w.heap.size w ?hb hgb ?_
            case hg => rw [Array.toArray_toList]; exact HH.out
            case hn => rw [SortU.flat_length, List.length_drop]; congr 1; simp only [Nat.min_def]; split <;> omega
            case hpos => intro _; exact ⟨rfl, ⟨g, m * 3, none⟩, rfl, fun j v hj => by rw [show (⟨g, m * 3, none⟩ : Addr).add j = ⟨g, m * 3 + j, none⟩ by unfold Addr.add; split <;> simp_all]; exact (blk_cell HH.out (m * 3 + j)).trans (by rw [← Array.getElem?_toList]; exact SortU.src_cells cur.toList es (toE x) m hml HT.out j v hj)⟩
            case hfit => rw [SortU.flat_length, List.length_drop, HCL.out]; omega
            case hb => exact below_drew HB10.out
            intro w11 hg11 hb11 hk11
            have hgg : gb ≠ g := fun hh => HN10.out (by rw [hh]; rfl)
            have BK11 : w11.heap[gb]? = some (.cells #[.int .i64 x.f0, .int .i64 x.f1, .string x.f2] 38 (0, 0)) := (hk11 gb hgg).trans BK10.out
            have hb0 : w11.cell? ⟨gb, 0, none⟩ = some (.int .i64 x.f0) := (blk_cell BK11 0).trans rfl
            have hb1 : w11.cell? ⟨gb, 1, none⟩ = some (.int .i64 x.f1) := (blk_cell BK11 1).trans rfl
            have hb2 : w11.cell? ⟨gb, 2, none⟩ = some (.string x.f2) := (blk_cell BK11 2).trans rfl
            have hsl : (splice cur.toList ((m + 1) * 3) (SortU.flat (es.drop m))).length = cap * 3 := by
              rw [length_splice _ _ _ (by rw [SortU.flat_length, List.length_drop, HCL.out]; omega), HCL.out]
            obtain ⟨q0, hq0⟩ : ∃ q, w11.cell? ⟨g, m * 3, none⟩ = some q := ⟨_, (blk_cell hg11.out (m * 3)).trans (by rw [List.getElem?_toArray]; exact List.getElem?_eq_getElem (by omega))⟩
            obtain ⟨q1, hq1⟩ : ∃ q, w11.cell? ⟨g, m * 3 + 1, none⟩ = some q := ⟨_, (blk_cell hg11.out (m * 3 + 1)).trans (by rw [List.getElem?_toArray]; exact List.getElem?_eq_getElem (by omega))⟩
            obtain ⟨q2, hq2⟩ : ∃ q, w11.cell? ⟨g, m * 3 + 2, none⟩ = some q := ⟨_, (blk_cell hg11.out (m * 3 + 2)).trans (by rw [List.getElem?_toArray]; exact List.getElem?_eq_getElem (by omega))⟩
            have hf0 := blk_frozen hg11.out (m * 3)
            have hf1 := blk_frozen hg11.out (m * 3 + 1)
            have hf2 := blk_frozen hg11.out (m * 3 + 2)
            have HB11 := Aside0.mk hb11
            have HSL := Lib.hid hsl
            clear hk11 hb11 hsl BK11 hn5 hn4
            go_wp2_with fail
            go_roundw
            case rel => exact ⟨k + 1, by go_num, by omega, ⟨by rw [accE_succ l0 k hlt, ← HES.out]; exact finR HX.out hI.out hg11 HSL.out HT.out HCL.out hml hgb hncap hcapm⟩, ⟨((HB11.out.setCell hgb _).setCell hgb _).setCell hgb _⟩⟩
            case measure => simp [intOf]; omega
    · obtain rfl : k = l0.length := by omega
      go_wp2
      go_ret
      exact ⟨_, rfl, by rw [HR.out]; exact HO.out, HB.out⟩

/-! ### spec_ApplyTo: function 7 -/
def spec_ApplyTo.l0 : Nat → ByteArray → Int → ByteArray → Int → List (S38) → Int → Int → Option (ByteArray × Int)
  | 0, _, _, _, _, _, _, _ => none
  | k + 1, x0, x6, x7, x8, x19, x20, x21 => if x21 < x20 then (if 0 ≤ x21 then (if x21 < (x19.length : Int) then (if 0 ≤ x8 then (if x8 ≤ ((rd_T38 x19 x21).f0) then (if ((rd_T38 x19 x21).f0) ≤ (x0.size : Int) then (if (x0.extract (x8 : Int).toNat (((rd_T38 x19 x21).f0) : Int).toNat).size + ((rd_T38 x19 x21).f2).size ≤ 9223372036854775807 then (if x7.size + ((x0.extract (x8 : Int).toNat (((rd_T38 x19 x21).f0) : Int).toNat) ++ ((rd_T38 x19 x21).f2)).size ≤ 9223372036854775807 then (spec_ApplyTo.l0 k x0 x6 (x7 ++ ((x0.extract (x8 : Int).toNat (((rd_T38 x19 x21).f0) : Int).toNat) ++ ((rd_T38 x19 x21).f2))) ((rd_T38 x19 x21).f1) x19 x20 (wrap64 (x21 + 1))) else (none)) else (none)) else (none)) else (none)) else (none)) else (none)) else (none)) else (if 0 ≤ x8 then (if x8 ≤ (x0.size : Int) then (if x7.size + (x0.extract (x8 : Int).toNat x0.size).size ≤ 9223372036854775807 then (some (x7 ++ (x0.extract (x8 : Int).toNat x0.size), x6)) else (none)) else (none)) else (none))
def spec_ApplyTo.f (k : Nat) (a0 : ByteArray) (l1 : List (S38)) : Option (ByteArray × Int) := (spec_ToldOf.f k l1 (a0.size : Int)).bind fun t123 => (if t123 = 0 then ((spec_Sorted.f l1).bind fun t124 => (spec_ApplyTo.l0 k a0 t123 (⟨#[]⟩ : ByteArray) 0 t124 (t124.length : Int) 0)) else (some ((⟨#[]⟩ : ByteArray), t123)))
theorem spec_ApplyTo.mono_l : ∀ k, (∀ y0 y1 y2 y3 y4 y5 y6, LeO (spec_ApplyTo.l0 k y0 y1 y2 y3 y4 y5 y6) (spec_ApplyTo.l0 (k + 1) y0 y1 y2 y3 y4 y5 y6))
  | 0 => fun _ _ _ _ _ _ _ r h => by simp [spec_ApplyTo.l0] at h
  | k + 1 => by
    have ih0 := spec_ApplyTo.mono_l k
    · intro y0 y1 y2 y3 y4 y5 y6
      unfold spec_ApplyTo.l0
      repeat' first
      | (with_reducible exact ih0 _ _ _ _ _ _ _)
      | (with_reducible exact spec_ToldOf.mono _ _ _)
      | (with_reducible exact LeO.refl _)
      | (with_reducible exact LeO.none _)
      | (with_reducible refine LeO.ite ?_ ?_)
      | (with_reducible refine LeO.bind ?_ (fun _ => ?_))
      | exact ih0 _ _ _ _ _ _ _
      | exact spec_ToldOf.mono _ _ _
      | exact LeO.none _
      | refine LeO.ite ?_ ?_
      | refine LeO.bind ?_ (fun _ => ?_)
theorem spec_ApplyTo.mono : ∀ a0 a1 k, LeO (spec_ApplyTo.f k a0 a1) (spec_ApplyTo.f (k + 1) a0 a1) := by
  intro a0 a1 k
  have ih0 := spec_ApplyTo.mono_l k
  unfold spec_ApplyTo.f
  repeat' first
      | (with_reducible exact ih0 _ _ _ _ _ _ _)
      | (with_reducible exact spec_ToldOf.mono _ _ _)
      | (with_reducible exact LeO.refl _)
      | (with_reducible exact LeO.none _)
      | (with_reducible refine LeO.ite ?_ ?_)
      | (with_reducible refine LeO.bind ?_ (fun _ => ?_))
      | exact ih0 _ _ _ _ _ _ _
      | exact spec_ToldOf.mono _ _ _
      | exact LeO.none _
      | refine LeO.ite ?_ ?_
      | refine LeO.bind ?_ (fun _ => ?_)
set_option maxHeartbeats 8000000 in
set_option maxRecDepth 100000 in
theorem spec_ApplyTo.calls (k : Nat) (a0 : ByteArray) (A1 : Option Addr) (c1 : Nat) (l1 : List (S38)) (r1 : ByteArray) (r2 : Int) (w : World) (hr1 : Kd.C k38 w A1 l1.length l1) (hc1 : l1.length ≤ c1) (h : spec_ApplyTo.f k a0 l1 = some (r1, r2)) :
    Calls Tryd.prog 7 #[.string a0, .slice A1 l1.length c1] w fun e w' => e = .returned (.tuple #[.string r1, .int .i64 r2]) ∧ Below w.heap.size w w' := by
  have hu38 := Tryd.underlying38
  have HR1 := Aside0.mk hr1
  have HC1 := Aside0.mk hc1
  clear hr1 hc1
  have HB := Aside0.mk (Below.refl w.heap.size w)
  have H : ((spec_ToldOf.f k l1 (a0.size : Int)).bind fun t123 => (if t123 = 0 then ((spec_Sorted.f l1).bind fun t124 => (spec_ApplyTo.l0 k a0 t123 (⟨#[]⟩ : ByteArray) 0 t124 (t124.length : Int) 0)) else (some ((⟨#[]⟩ : ByteArray), t123)))) = some (r1, r2) := h
  clear h
  replace H := Option.bind_eq_some_iff.mp H
  obtain ⟨t123, A30, H⟩ := H
  replace H : (if t123 = 0 then ((spec_Sorted.f l1).bind fun t124 => (spec_ApplyTo.l0 k a0 t123 (⟨#[]⟩ : ByteArray) 0 t124 (t124.length : Int) 0)) else (some ((⟨#[]⟩ : ByteArray), t123))) = some (r1, r2) := H
  have A3 := Aside0.mk A30
  clear A30
  by_cases c4 : t123 = 0
  · rw [if_pos c4] at H
    have c4b0 : (t123 == 0) = true := beq_iff_eq.mpr c4
    have c4b1 : (t123 != 0) = false := bne_eq_false_iff_eq.mpr c4
    clear c4
    replace H := Option.bind_eq_some_iff.mp H
    obtain ⟨t124, A50, H⟩ := H
    replace H : (spec_ApplyTo.l0 k a0 t123 (⟨#[]⟩ : ByteArray) 0 t124 (t124.length : Int) 0) = some (r1, r2) := H
    have A5 := Aside0.mk A50
    clear A50
    have H' := Aside0.mk H
    clear H
    go_enter Tryd.func7, Tryd.ntmps7
    go_wp2_with (first | (go_at_call 14; (with_reducible refine (spec_ToldOf.calls k _ _ l1 (a0.size : Int) t123 _ ?side1 ?side2 A3.out).mono ?_); (case side1 => repeat (first | exact HR1.out | (with_reducible refine Kd.C_alloc ?_ _) | (with_reducible refine Kd.C_drewN ?_ _) | (with_reducible refine Kd.C_drew ?_))); (case side2 => exact HC1.out); rintro e w6 ⟨rfl, hb⟩; have n0_ := Aside0.mk (below_step (by repeat (first | (with_reducible first | exact HB.out | apply below_alloc | apply pw_below_drewN | apply below_drew1) | exact HB.out)) hb); clear HB; have HB := n0_; clear n0_; (try clear hb); (try clear hb2); (try clear hk); (try clear hi)) | (go_at_call 15; (with_reducible refine (spec_Sorted.calls _ _ l1 t124 _ ?side1 ?side2 A5.out).mono ?_); (case side1 => repeat (first | exact (Kd.C_below HR1.out HB.out) | (with_reducible refine Kd.C_alloc ?_ _) | (with_reducible refine Kd.C_drewN ?_ _) | (with_reducible refine Kd.C_drew ?_))); (case side2 => exact HC1.out); rintro e w7 ⟨v125, rfl, ho0, hb⟩; have n0_ := Aside0.mk (Kd.R_lower ho0 (below_size (by repeat (first | (with_reducible first | exact HB.out | apply below_alloc | apply pw_below_drewN | apply below_drew1) | exact HB.out)))); have n1_ := Aside0.mk (below_step (by repeat (first | (with_reducible first | exact HB.out | apply below_alloc | apply pw_below_drewN | apply below_drew1) | exact HB.out)) hb); clear HB; have HO126 := n0_; have HB := n1_; clear n0_ n1_; (try clear hb); (try clear hb2); (try clear hk); (try clear hi); (try clear ho0); obtain ⟨Ao8, co8, eo8⟩ := Kd.R_slice HO126.out; subst eo8))
    repeat (go_quiet (first | (go_at_call 14; (with_reducible refine (spec_ToldOf.calls k _ _ l1 (a0.size : Int) t123 _ ?side1 ?side2 A3.out).mono ?_); (case side1 => repeat (first | exact HR1.out | (with_reducible refine Kd.C_alloc ?_ _) | (with_reducible refine Kd.C_drewN ?_ _) | (with_reducible refine Kd.C_drew ?_))); (case side2 => exact HC1.out); rintro e w6 ⟨rfl, hb⟩; have n0_ := Aside0.mk (below_step (by repeat (first | (with_reducible first | exact HB.out | apply below_alloc | apply pw_below_drewN | apply below_drew1) | exact HB.out)) hb); clear HB; have HB := n0_; clear n0_; (try clear hb); (try clear hb2); (try clear hk); (try clear hi)) | (go_at_call 15; (with_reducible refine (spec_Sorted.calls _ _ l1 t124 _ ?side1 ?side2 A5.out).mono ?_); (case side1 => repeat (first | exact (Kd.C_below HR1.out HB.out) | (with_reducible refine Kd.C_alloc ?_ _) | (with_reducible refine Kd.C_drewN ?_ _) | (with_reducible refine Kd.C_drew ?_))); (case side2 => exact HC1.out); rintro e w7 ⟨v125, rfl, ho0, hb⟩; have n0_ := Aside0.mk (Kd.R_lower ho0 (below_size (by repeat (first | (with_reducible first | exact HB.out | apply below_alloc | apply pw_below_drewN | apply below_drew1) | exact HB.out)))); have n1_ := Aside0.mk (below_step (by repeat (first | (with_reducible first | exact HB.out | apply below_alloc | apply pw_below_drewN | apply below_drew1) | exact HB.out)) hb); clear HB; have HO126 := n0_; have HB := n1_; clear n0_ n1_; (try clear hb); (try clear hb2); (try clear hk); (try clear hi); (try clear ho0); obtain ⟨Ao8, co8, eo8⟩ := Kd.R_slice HO126.out; subst eo8)); try go_wp2_with (first | (go_at_call 14; (with_reducible refine (spec_ToldOf.calls k _ _ l1 (a0.size : Int) t123 _ ?side1 ?side2 A3.out).mono ?_); (case side1 => repeat (first | exact HR1.out | (with_reducible refine Kd.C_alloc ?_ _) | (with_reducible refine Kd.C_drewN ?_ _) | (with_reducible refine Kd.C_drew ?_))); (case side2 => exact HC1.out); rintro e w6 ⟨rfl, hb⟩; have n0_ := Aside0.mk (below_step (by repeat (first | (with_reducible first | exact HB.out | apply below_alloc | apply pw_below_drewN | apply below_drew1) | exact HB.out)) hb); clear HB; have HB := n0_; clear n0_; (try clear hb); (try clear hb2); (try clear hk); (try clear hi)) | (go_at_call 15; (with_reducible refine (spec_Sorted.calls _ _ l1 t124 _ ?side1 ?side2 A5.out).mono ?_); (case side1 => repeat (first | exact (Kd.C_below HR1.out HB.out) | (with_reducible refine Kd.C_alloc ?_ _) | (with_reducible refine Kd.C_drewN ?_ _) | (with_reducible refine Kd.C_drew ?_))); (case side2 => exact HC1.out); rintro e w7 ⟨v125, rfl, ho0, hb⟩; have n0_ := Aside0.mk (Kd.R_lower ho0 (below_size (by repeat (first | (with_reducible first | exact HB.out | apply below_alloc | apply pw_below_drewN | apply below_drew1) | exact HB.out)))); have n1_ := Aside0.mk (below_step (by repeat (first | (with_reducible first | exact HB.out | apply below_alloc | apply pw_below_drewN | apply below_drew1) | exact HB.out)) hb); clear HB; have HO126 := n0_; have HB := n1_; clear n0_ n1_; (try clear hb); (try clear hb2); (try clear hk); (try clear hi); (try clear ho0); obtain ⟨Ao8, co8, eo8⟩ := Kd.R_slice HO126.out; subst eo8)))
    go_loopg [7, 8, 21] k (fun kq v7 v8 v21 w' => ∃ (x7_1 : ByteArray) (x8_1 : Int) (x21_1 : Int), v7 = .string x7_1 ∧ v8 = .int .i64 x8_1 ∧ v21 = .int .i64 x21_1 ∧ Aside0 (spec_ApplyTo.l0 kq a0 t123 x7_1 x8_1 t124 (t124.length : Int) x21_1 = some (r1, r2)) ∧ Aside0 (kq ≤ k) ∧ Aside0 (Kd.R k38 38 w' w.heap.size (fun _ => True) (.slice Ao8 t124.length co8) t124) ∧ Aside0 (Below w.heap.size w w'))
    case atStart => exact ⟨((⟨#[]⟩ : ByteArray)), (0), (0), (by first | rfl | (simp; done) | (simp [*]; done)), (by first | rfl | (simp; done) | (simp [*]; done)), (by first | rfl | (simp; done) | (simp [*]; done)), H', ⟨Nat.le_refl _⟩, ⟨by (with_reducible repeat (first | apply Kd.R_alloc | apply Kd.R_drewN | apply Kd.R_drew)); exact HO126.out⟩, ⟨by repeat (first | (with_reducible first | exact HB.out | apply below_alloc | apply pw_below_drewN | apply below_drew1) | exact HB.out)⟩⟩
    case round =>
      clear H'
      try clear c1
      try clear p2
      try clear c4
      try clear c4b0
      try clear c4b1
      try clear c7
      obtain ⟨x7_1, x8_1, x21_1, rfl, rfl, rfl, HA, HK1, HO_19, HB⟩ := hrel
      cases gk with
      | zero => exact absurd HA.out (by simp [spec_ApplyTo.l0])
      | succ k1 =>
        have H := HA.out
        clear HA
        simp only [spec_ApplyTo.l0] at H
        by_cases c9 : x21_1 < (t124.length : Int)
        · rw [if_pos c9] at H
          have c9b0 : decide (x21_1 < (t124.length : Int)) = true := decide_eq_true c9
          clear c9
          by_cases c10 : 0 ≤ x21_1
          · rw [if_pos c10] at H
            have c10b0 : decide (0 ≤ x21_1) = true := decide_eq_true c10
            clear c10
            by_cases c11 : x21_1 < (t124.length : Int)
            · rw [if_pos c11] at H
              have c11b0 : decide (x21_1 < (t124.length : Int)) = true := decide_eq_true c11
              clear c11
              by_cases c12 : 0 ≤ x8_1
              · rw [if_pos c12] at H
                have c12b0 := eq_true c12
                have c12b1 : decide (0 ≤ x8_1) = true := decide_eq_true c12
                clear c12
                by_cases c13 : x8_1 ≤ ((rd_T38 t124 x21_1).f0)
                · rw [if_pos c13] at H
                  have c13b0 := eq_true c13
                  have c13b1 : decide (x8_1 ≤ ((rd_T38 t124 x21_1).f0)) = true := decide_eq_true c13
                  clear c13
                  by_cases c14 : ((rd_T38 t124 x21_1).f0) ≤ (a0.size : Int)
                  · rw [if_pos c14] at H
                    have c14b0 := eq_true c14
                    have c14b1 : decide (((rd_T38 t124 x21_1).f0) ≤ (a0.size : Int)) = true := decide_eq_true c14
                    clear c14
                    by_cases c15 : (a0.extract (x8_1 : Int).toNat (((rd_T38 t124 x21_1).f0) : Int).toNat).size + ((rd_T38 t124 x21_1).f2).size ≤ 9223372036854775807
                    · rw [if_pos c15] at H
                      have c15b0 := eq_true c15
                      have c15b1 : decide ((a0.extract (x8_1 : Int).toNat (((rd_T38 t124 x21_1).f0) : Int).toNat).size + ((rd_T38 t124 x21_1).f2).size ≤ 9223372036854775807) = true := decide_eq_true c15
                      try have c15b2 : (9223372036854775807 < (a0.extract (x8_1 : Int).toNat (((rd_T38 t124 x21_1).f0) : Int).toNat).size + ((rd_T38 t124 x21_1).f2).size) = False := eq_false (Nat.not_lt.2 c15)
                      by_cases c16 : x7_1.size + ((a0.extract (x8_1 : Int).toNat (((rd_T38 t124 x21_1).f0) : Int).toNat) ++ ((rd_T38 t124 x21_1).f2)).size ≤ 9223372036854775807
                      · rw [if_pos c16] at H
                        have c16b0 := eq_true c16
                        have c16b1 : decide (x7_1.size + ((a0.extract (x8_1 : Int).toNat (((rd_T38 t124 x21_1).f0) : Int).toNat) ++ ((rd_T38 t124 x21_1).f2)).size ≤ 9223372036854775807) = true := decide_eq_true c16
                        try have c16b2 : (9223372036854775807 < x7_1.size + ((a0.extract (x8_1 : Int).toNat (((rd_T38 t124 x21_1).f0) : Int).toNat) ++ ((rd_T38 t124 x21_1).f2)).size) = False := eq_false (Nat.not_lt.2 c16)
                        have H' := Aside0.mk H
                        clear H
                        have p127 : 0 ≤ (x21_1 : Int) := of_decide_eq_true (by first | (with_reducible assumption) | assumption)
                        have q127 : x21_1 < (t124.length : Int) := of_decide_eq_true (by first | (with_reducible assumption) | assumption)
                        obtain ⟨ad127, e127, hx127_0, hx127_1, hx127_2⟩ := at_T38 (Kd.R_reads' HO_19.out).2.2 x21_1 p127 q127
                        cases e127
                        replace p127 := eq_true p127
                        replace q127 := eq_true q127
                        go_wp2_with (first | ((with_reducible refine gate_dst (N := 10) rfl ?_); refine box_event ?hg (N := 10) ?hd (cs := #[.int .i64 0, .int .i64 0, .string (⟨#[]⟩ : ByteArray)]) (t := 38) ?hr ?_; (case hd => rfl); (case hg => rfl); (case hr => first | (go_simp; done) | (go_simp; rfl)); intro gb128 hg w17 hbox hb; have n0_ := Aside0.mk (Kd.R_below (Kd.R_elderB (by (with_reducible repeat (first | apply Kd.R_alloc | apply Kd.R_drewN | apply Kd.R_drew)); exact HO_19.out) gb128 (Nat.le_of_eq hg.symm)) hb); have n1_ := Aside0.mk (below_step (by repeat (first | (with_reducible first | exact HB.out | apply below_alloc | apply pw_below_drewN | apply below_drew1) | exact HB.out)) hb); have n2_ := Aside0.mk (hbox); have n3_ := Aside0.mk ((by rw [hg]; exact (below_size (by repeat (first | (with_reducible first | exact HB.out | apply below_alloc | apply pw_below_drewN | apply below_drew1) | exact HB.out))) : w.heap.size ≤ gb128)); have n4_ := Aside0.mk ((by rw [hg]; exact (below_size (by repeat (first | (with_reducible first | exact HB.out | apply below_alloc | apply pw_below_drewN | apply below_drew1) | exact HB.out))) : w.heap.size ≤ gb128)); clear HO_19; clear HB; have HO_19 := n0_; have HB := n1_; have BK128 := n2_; have GW128 := n3_; have GE128 := n4_; clear n0_ n1_ n2_ n3_ n4_; clear hb hbox hg; have hcz18_0 : w17.cell? ⟨gb128, 0, none⟩ = some (.int .i64 0) := (blk_cell BK128.out 0).trans rfl; have hcz18_1 : w17.cell? ⟨gb128, 1, none⟩ = some (.int .i64 0) := (blk_cell BK128.out 1).trans rfl; have hcz18_2 : w17.cell? ⟨gb128, 2, none⟩ = some (.string (⟨#[]⟩ : ByteArray)) := (blk_cell BK128.out 2).trans rfl; have hfz18_0 := blk_frozen BK128.out 0; have hfz18_1 := blk_frozen BK128.out 1; have hfz18_2 := blk_frozen BK128.out 2))
                        repeat (go_quiet (first | ((with_reducible refine gate_dst (N := 10) rfl ?_); refine box_event ?hg (N := 10) ?hd (cs := #[.int .i64 0, .int .i64 0, .string (⟨#[]⟩ : ByteArray)]) (t := 38) ?hr ?_; (case hd => rfl); (case hg => rfl); (case hr => first | (go_simp; done) | (go_simp; rfl)); intro gb128 hg w17 hbox hb; have n0_ := Aside0.mk (Kd.R_below (Kd.R_elderB (by (with_reducible repeat (first | apply Kd.R_alloc | apply Kd.R_drewN | apply Kd.R_drew)); exact HO_19.out) gb128 (Nat.le_of_eq hg.symm)) hb); have n1_ := Aside0.mk (below_step (by repeat (first | (with_reducible first | exact HB.out | apply below_alloc | apply pw_below_drewN | apply below_drew1) | exact HB.out)) hb); have n2_ := Aside0.mk (hbox); have n3_ := Aside0.mk ((by rw [hg]; exact (below_size (by repeat (first | (with_reducible first | exact HB.out | apply below_alloc | apply pw_below_drewN | apply below_drew1) | exact HB.out))) : w.heap.size ≤ gb128)); have n4_ := Aside0.mk ((by rw [hg]; exact (below_size (by repeat (first | (with_reducible first | exact HB.out | apply below_alloc | apply pw_below_drewN | apply below_drew1) | exact HB.out))) : w.heap.size ≤ gb128)); clear HO_19; clear HB; have HO_19 := n0_; have HB := n1_; have BK128 := n2_; have GW128 := n3_; have GE128 := n4_; clear n0_ n1_ n2_ n3_ n4_; clear hb hbox hg; have hcz18_0 : w17.cell? ⟨gb128, 0, none⟩ = some (.int .i64 0) := (blk_cell BK128.out 0).trans rfl; have hcz18_1 : w17.cell? ⟨gb128, 1, none⟩ = some (.int .i64 0) := (blk_cell BK128.out 1).trans rfl; have hcz18_2 : w17.cell? ⟨gb128, 2, none⟩ = some (.string (⟨#[]⟩ : ByteArray)) := (blk_cell BK128.out 2).trans rfl; have hfz18_0 := blk_frozen BK128.out 0; have hfz18_1 := blk_frozen BK128.out 1; have hfz18_2 := blk_frozen BK128.out 2)); try go_wp2_with (first | ((with_reducible refine gate_dst (N := 10) rfl ?_); refine box_event ?hg (N := 10) ?hd (cs := #[.int .i64 0, .int .i64 0, .string (⟨#[]⟩ : ByteArray)]) (t := 38) ?hr ?_; (case hd => rfl); (case hg => rfl); (case hr => first | (go_simp; done) | (go_simp; rfl)); intro gb128 hg w17 hbox hb; have n0_ := Aside0.mk (Kd.R_below (Kd.R_elderB (by (with_reducible repeat (first | apply Kd.R_alloc | apply Kd.R_drewN | apply Kd.R_drew)); exact HO_19.out) gb128 (Nat.le_of_eq hg.symm)) hb); have n1_ := Aside0.mk (below_step (by repeat (first | (with_reducible first | exact HB.out | apply below_alloc | apply pw_below_drewN | apply below_drew1) | exact HB.out)) hb); have n2_ := Aside0.mk (hbox); have n3_ := Aside0.mk ((by rw [hg]; exact (below_size (by repeat (first | (with_reducible first | exact HB.out | apply below_alloc | apply pw_below_drewN | apply below_drew1) | exact HB.out))) : w.heap.size ≤ gb128)); have n4_ := Aside0.mk ((by rw [hg]; exact (below_size (by repeat (first | (with_reducible first | exact HB.out | apply below_alloc | apply pw_below_drewN | apply below_drew1) | exact HB.out))) : w.heap.size ≤ gb128)); clear HO_19; clear HB; have HO_19 := n0_; have HB := n1_; have BK128 := n2_; have GW128 := n3_; have GE128 := n4_; clear n0_ n1_ n2_ n3_ n4_; clear hb hbox hg; have hcz18_0 : w17.cell? ⟨gb128, 0, none⟩ = some (.int .i64 0) := (blk_cell BK128.out 0).trans rfl; have hcz18_1 : w17.cell? ⟨gb128, 1, none⟩ = some (.int .i64 0) := (blk_cell BK128.out 1).trans rfl; have hcz18_2 : w17.cell? ⟨gb128, 2, none⟩ = some (.string (⟨#[]⟩ : ByteArray)) := (blk_cell BK128.out 2).trans rfl; have hfz18_0 := blk_frozen BK128.out 0; have hfz18_1 := blk_frozen BK128.out 1; have hfz18_2 := blk_frozen BK128.out 2)))
                        go_roundg k1
                        case measure => have := HK1.out; omega
                        case rel => exact ⟨(x7_1 ++ ((a0.extract (x8_1 : Int).toNat (((rd_T38 t124 x21_1).f0) : Int).toNat) ++ ((rd_T38 t124 x21_1).f2))), ((rd_T38 t124 x21_1).f1), (wrap64 (x21_1 + 1)), (by first | rfl | (simp; done) | (simp [*]; done)), (by first | rfl | (simp; done) | (simp [*]; done)), (by first | rfl | (simp; done) | (simp [*]; done)), H', ⟨by have := HK1.out; omega⟩, ⟨by (with_reducible repeat (first | apply Kd.R_alloc | apply Kd.R_drewN | apply Kd.R_drew)); exact Kd.R_mono (Kd.R_far (p := ⟨gb128, 2, none⟩) (Kd.R_far (p := ⟨gb128, 1, none⟩) (Kd.R_far (p := ⟨gb128, 0, none⟩) (Kd.R_mono HO_19.out (fun k_ hk => (⟨hk, hk.2⟩ : _ ∧ k_ ≠ gb128))) (fun _ hk => hk.2) (.int .i64 ((rd_T38 t124 x21_1).f0))) (fun _ hk => hk.2) (.int .i64 ((rd_T38 t124 x21_1).f1))) (fun _ hk => hk.2) (.string ((rd_T38 t124 x21_1).f2))) (fun _ hk => trivial)⟩, ⟨by repeat (first | (with_reducible first | exact HB.out | apply below_alloc | apply pw_below_drewN | apply below_drew1 | refine below_set ?_ GE128.out) | exact HB.out)⟩⟩
                      · rw [if_neg c16] at H
                        exact absurd H (by simp)
                    · rw [if_neg c15] at H
                      exact absurd H (by simp)
                  · rw [if_neg c14] at H
                    exact absurd H (by simp)
                · rw [if_neg c13] at H
                  exact absurd H (by simp)
              · rw [if_neg c12] at H
                exact absurd H (by simp)
            · rw [if_neg c11] at H
              exact absurd H (by simp)
          · rw [if_neg c10] at H
            exact absurd H (by simp)
        · rw [if_neg c9] at H
          have c9b0 : decide (x21_1 < (t124.length : Int)) = false := decide_eq_false c9
          clear c9
          by_cases c19 : 0 ≤ x8_1
          · rw [if_pos c19] at H
            have c19b0 := eq_true c19
            have c19b1 : decide (0 ≤ x8_1) = true := decide_eq_true c19
            clear c19
            by_cases c20 : x8_1 ≤ (a0.size : Int)
            · rw [if_pos c20] at H
              have c20b0 := eq_true c20
              have c20b1 : decide (x8_1 ≤ (a0.size : Int)) = true := decide_eq_true c20
              clear c20
              by_cases c21 : x7_1.size + (a0.extract (x8_1 : Int).toNat a0.size).size ≤ 9223372036854775807
              · rw [if_pos c21] at H
                have c21b0 := eq_true c21
                have c21b1 : decide (x7_1.size + (a0.extract (x8_1 : Int).toNat a0.size).size ≤ 9223372036854775807) = true := decide_eq_true c21
                try have c21b2 : (9223372036854775807 < x7_1.size + (a0.extract (x8_1 : Int).toNat a0.size).size) = False := eq_false (Nat.not_lt.2 c21)
                simp only [Option.some.injEq, Prod.mk.injEq] at H
                obtain ⟨rfl, rfl⟩ := H
                go_wp2
                repeat (go_quiet (fail); try go_wp2)
                go_ret2
                exact ⟨by first | rfl | (simp [errW_none, errW_some] <;> rfl) | (simp [*, errW_none, errW_some] <;> rfl), by repeat (first | (with_reducible first | exact HB.out | apply below_alloc | apply pw_below_drewN | apply below_drew1) | exact HB.out)⟩
              · rw [if_neg c21] at H
                exact absurd H (by simp)
            · rw [if_neg c20] at H
              exact absurd H (by simp)
          · rw [if_neg c19] at H
            exact absurd H (by simp)
  · rw [if_neg c4] at H
    have c4b0 : (t123 == 0) = false := beq_eq_false_iff_ne.mpr c4
    have c4b1 : (t123 != 0) = true := bne_iff_ne.mpr c4
    simp only [Option.some.injEq, Prod.mk.injEq] at H
    obtain ⟨rfl, rfl⟩ := H
    go_enter Tryd.func7, Tryd.ntmps7
    go_wp2_with (first | (go_at_call 14; (with_reducible refine (spec_ToldOf.calls k _ _ l1 (a0.size : Int) t123 _ ?side1 ?side2 A3.out).mono ?_); (case side1 => repeat (first | exact HR1.out | (with_reducible refine Kd.C_alloc ?_ _) | (with_reducible refine Kd.C_drewN ?_ _) | (with_reducible refine Kd.C_drew ?_))); (case side2 => exact HC1.out); rintro e w22 ⟨rfl, hb⟩; have n0_ := Aside0.mk (below_step (by repeat (first | (with_reducible first | exact HB.out | apply below_alloc | apply pw_below_drewN | apply below_drew1) | exact HB.out)) hb); clear HB; have HB := n0_; clear n0_; (try clear hb); (try clear hb2); (try clear hk); (try clear hi)))
    repeat (go_quiet (first | (go_at_call 14; (with_reducible refine (spec_ToldOf.calls k _ _ l1 (a0.size : Int) t123 _ ?side1 ?side2 A3.out).mono ?_); (case side1 => repeat (first | exact HR1.out | (with_reducible refine Kd.C_alloc ?_ _) | (with_reducible refine Kd.C_drewN ?_ _) | (with_reducible refine Kd.C_drew ?_))); (case side2 => exact HC1.out); rintro e w22 ⟨rfl, hb⟩; have n0_ := Aside0.mk (below_step (by repeat (first | (with_reducible first | exact HB.out | apply below_alloc | apply pw_below_drewN | apply below_drew1) | exact HB.out)) hb); clear HB; have HB := n0_; clear n0_; (try clear hb); (try clear hb2); (try clear hk); (try clear hi))); try go_wp2_with (first | (go_at_call 14; (with_reducible refine (spec_ToldOf.calls k _ _ l1 (a0.size : Int) t123 _ ?side1 ?side2 A3.out).mono ?_); (case side1 => repeat (first | exact HR1.out | (with_reducible refine Kd.C_alloc ?_ _) | (with_reducible refine Kd.C_drewN ?_ _) | (with_reducible refine Kd.C_drew ?_))); (case side2 => exact HC1.out); rintro e w22 ⟨rfl, hb⟩; have n0_ := Aside0.mk (below_step (by repeat (first | (with_reducible first | exact HB.out | apply below_alloc | apply pw_below_drewN | apply below_drew1) | exact HB.out)) hb); clear HB; have HB := n0_; clear n0_; (try clear hb); (try clear hb2); (try clear hk); (try clear hi))))
    go_ret2
    exact ⟨by first | rfl | (simp [errW_none, errW_some] <;> rfl) | (simp [*, errW_none, errW_some] <;> rfl), by repeat (first | (with_reducible first | exact HB.out | apply below_alloc | apply pw_below_drewN | apply below_drew1) | exact HB.out)⟩

/-! ### spec_Label: function 8 -/
def spec_Label.l0 : Nat → ByteArray → Int → Int → Option (Bool)
  | 0, _, _, _ => none
  | k + 1, x0, x5, x6 => if x6 < x5 then (if 0 ≤ x6 then (if x6 < (x0.size : Int) then (if (bt x0 x6) = 10 then (some false) else (spec_Label.l0 k x0 x5 (wrap64 (x6 + 1)))) else (none)) else (none)) else (some true)
def spec_Label.f (k : Nat) (a0 : ByteArray) : Option (Bool) := spec_Label.l0 k a0 (a0.size : Int) 0
theorem spec_Label.mono_l : ∀ k, (∀ y0 y1 y2, LeO (spec_Label.l0 k y0 y1 y2) (spec_Label.l0 (k + 1) y0 y1 y2))
  | 0 => fun _ _ _ r h => by simp [spec_Label.l0] at h
  | k + 1 => by
    have ih0 := spec_Label.mono_l k
    · intro y0 y1 y2
      unfold spec_Label.l0
      repeat' first
      | (with_reducible exact ih0 _ _ _)
      | (with_reducible exact LeO.refl _)
      | (with_reducible exact LeO.none _)
      | (with_reducible refine LeO.ite ?_ ?_)
      | (with_reducible refine LeO.bind ?_ (fun _ => ?_))
      | exact ih0 _ _ _
      | exact LeO.none _
      | refine LeO.ite ?_ ?_
      | refine LeO.bind ?_ (fun _ => ?_)
theorem spec_Label.mono : ∀ a0 k, LeO (spec_Label.f k a0) (spec_Label.f (k + 1) a0) := by
  intro a0 k
  have ih0 := spec_Label.mono_l k
  unfold spec_Label.f
  repeat' first
      | (with_reducible exact ih0 _ _ _)
      | (with_reducible exact LeO.refl _)
      | (with_reducible exact LeO.none _)
      | (with_reducible refine LeO.ite ?_ ?_)
      | (with_reducible refine LeO.bind ?_ (fun _ => ?_))
      | exact ih0 _ _ _
      | exact LeO.none _
      | refine LeO.ite ?_ ?_
      | refine LeO.bind ?_ (fun _ => ?_)
set_option maxHeartbeats 8000000 in
set_option maxRecDepth 100000 in
theorem spec_Label.calls (k : Nat) (a0 : ByteArray) (r : Bool) (w : World) (h : spec_Label.f k a0 = some r) :
    Calls Tryd.prog 8 #[.string a0] w fun e w' => e = .returned (.bool r) ∧ Drawn0 w w' := by
  have H : (spec_Label.l0 k a0 (a0.size : Int) 0) = some r := h
  clear h
  have H' := Aside0.mk H
  clear H
  go_enter Tryd.func8, Tryd.ntmps8
  go_wp2
  go_loopg [6] k (fun kq v6 w' => ∃ (x6_1 : Int), v6 = .int .i64 x6_1 ∧ Aside0 (spec_Label.l0 kq a0 (a0.size : Int) x6_1 = some r) ∧ Aside0 (kq ≤ k) ∧ Drawn0 w w')
  case atStart => exact ⟨(0), (by first | rfl | (simp; done) | (simp [*]; done)), H', ⟨Nat.le_refl _⟩, by repeat (first | exact Drawn0.refl _ | apply Drawn0.step)⟩
  case round =>
    clear H'
    obtain ⟨x6_1, rfl, HA, HK1, ⟨m1, rfl⟩⟩ := hrel
    cases gk with
    | zero => exact absurd HA.out (by simp [spec_Label.l0])
    | succ k1 =>
      have H := HA.out
      clear HA
      simp only [spec_Label.l0] at H
      by_cases c2 : x6_1 < (a0.size : Int)
      · rw [if_pos c2] at H
        have c2b0 : decide (x6_1 < (a0.size : Int)) = true := decide_eq_true c2
        clear c2
        by_cases c3 : 0 ≤ x6_1
        · rw [if_pos c3] at H
          have c3b0 : decide (0 ≤ x6_1) = true := decide_eq_true c3
          clear c3
          by_cases c4 : x6_1 < (a0.size : Int)
          · rw [if_pos c4] at H
            have c4b0 : decide (x6_1 < (a0.size : Int)) = true := decide_eq_true c4
            clear c4
            by_cases c6 : (bt a0 x6_1) = 10
            · rw [if_pos c6] at H
              have c6b0 : ((bt a0 x6_1) == 10) = true := beq_iff_eq.mpr c6
              have c6b1 : ((bt a0 x6_1) != 10) = false := bne_eq_false_iff_eq.mpr c6
              clear c6
              obtain rfl := Option.some.inj H
              have p5 : 0 ≤ (x6_1 : Int) := of_decide_eq_true (by first | (with_reducible assumption) | assumption)
              have q5 : x6_1 < (a0.size : Int) := of_decide_eq_true (by first | (with_reducible assumption) | assumption)
              have hx5 := bt_at a0 x6_1
              replace p5 := eq_true p5
              replace q5 := eq_true q5
              go_wp2
              go_ret
              exact ⟨by first | rfl | (simp; done) | (simp [*]; done), by repeat (first | exact Drawn0.refl _ | apply Drawn0.step)⟩
            · rw [if_neg c6] at H
              have c6b0 : ((bt a0 x6_1) == 10) = false := beq_eq_false_iff_ne.mpr c6
              have c6b1 : ((bt a0 x6_1) != 10) = true := bne_iff_ne.mpr c6
              have H' := Aside0.mk H
              clear H
              have p5 : 0 ≤ (x6_1 : Int) := of_decide_eq_true (by first | (with_reducible assumption) | assumption)
              have q5 : x6_1 < (a0.size : Int) := of_decide_eq_true (by first | (with_reducible assumption) | assumption)
              have hx5 := bt_at a0 x6_1
              replace p5 := eq_true p5
              replace q5 := eq_true q5
              go_wp2
              go_roundg k1
              case measure => have := HK1.out; omega
              case rel => exact ⟨(wrap64 (x6_1 + 1)), (by first | rfl | (simp; done) | (simp [*]; done)), H', ⟨by have := HK1.out; omega⟩, by repeat (first | exact Drawn0.refl _ | apply Drawn0.step)⟩
          · rw [if_neg c4] at H
            exact absurd H (by simp)
        · rw [if_neg c3] at H
          exact absurd H (by simp)
      · rw [if_neg c2] at H
        have c2b0 : decide (x6_1 < (a0.size : Int)) = false := decide_eq_false c2
        clear c2
        obtain rfl := Option.some.inj H
        go_wp2
        go_ret
        exact ⟨by first | rfl | (simp; done) | (simp [*]; done), by repeat (first | exact Drawn0.refl _ | apply Drawn0.step)⟩

/-! ### impl_Context: function 9 -/
def impl_Context.f  : Option (Int) := some 3
set_option maxHeartbeats 8000000 in
set_option maxRecDepth 100000 in
theorem impl_Context.calls  (r : Int) (w : World) (h : impl_Context.f  = some r) :
    Calls Tryd.prog 9 #[] w fun e w' => e = .returned (.int .i64 r) ∧ Drawn0 w w' := by
  have H : (some 3) = some r := h
  clear h
  obtain rfl := Option.some.inj H
  go_enter Tryd.func9, Tryd.ntmps9
  go_wp2
  go_ret
  exact ⟨by first | rfl | (simp; done) | (simp [*]; done), by repeat (first | exact Drawn0.refl _ | apply Drawn0.step)⟩

-- NOT PRINTED: function 47 (sort_IsSorted)

-- NOT PRINTED: function 48 (xdiff_Edit)

-- NOT PRINTED: function 72 (sort_insertionSort)

-- NOT PRINTED: function 77 (sort_swapRange)

-- NOT PRINTED: function 76 (sort_rotate)

-- NOT PRINTED: function 73 (sort_symMerge)

-- NOT PRINTED: function 64 (sort_stable)

-- NOT PRINTED: function 56 (sort_Stable)

-- NOT PRINTED: function 49 (xdiff_SortEdits)

-- NOT PRINTED: function 50 (errors_New)

-- NOT PRINTED: function 40 (xdiff_validate)

/-! ### impl_given: function 17 -/
def impl_given.l0 : Nat → List (S66) → List (S38) → Int → Int → Option ((List (S66)))
  | 0, _, _, _, _ => none
  | k + 1, x3, x7, x8, x9 => if x9 < x8 then (if 0 ≤ x9 then (if x9 < (x7.length : Int) then (if x3.length < 4398046511104 then (impl_given.l0 k (x3 ++ [(⟨(rd_T38 x7 x9).f0, (rd_T38 x7 x9).f1, (rd_T38 x7 x9).f2⟩ : S66)]) x7 x8 (wrap64 (x9 + 1))) else (none)) else (none)) else (none)) else (some x3)
def impl_given.f (k : Nat) (l0 : List (S38)) : Option ((List (S66))) := impl_given.l0 k (([] : List (S66))) l0 (l0.length : Int) 0
theorem impl_given.mono_l : ∀ k, (∀ y0 y1 y2 y3, LeO (impl_given.l0 k y0 y1 y2 y3) (impl_given.l0 (k + 1) y0 y1 y2 y3))
  | 0 => fun _ _ _ _ r h => by simp [impl_given.l0] at h
  | k + 1 => by
    have ih0 := impl_given.mono_l k
    · intro y0 y1 y2 y3
      unfold impl_given.l0
      repeat' first
      | (with_reducible exact ih0 _ _ _ _)
      | (with_reducible exact LeO.refl _)
      | (with_reducible exact LeO.none _)
      | (with_reducible refine LeO.ite ?_ ?_)
      | (with_reducible refine LeO.bind ?_ (fun _ => ?_))
      | exact ih0 _ _ _ _
      | exact LeO.none _
      | refine LeO.ite ?_ ?_
      | refine LeO.bind ?_ (fun _ => ?_)
theorem impl_given.mono : ∀ a0 k, LeO (impl_given.f k a0) (impl_given.f (k + 1) a0) := by
  intro a0 k
  have ih0 := impl_given.mono_l k
  unfold impl_given.f
  repeat' first
      | (with_reducible exact ih0 _ _ _ _)
      | (with_reducible exact LeO.refl _)
      | (with_reducible exact LeO.none _)
      | (with_reducible refine LeO.ite ?_ ?_)
      | (with_reducible refine LeO.bind ?_ (fun _ => ?_))
      | exact ih0 _ _ _ _
      | exact LeO.none _
      | refine LeO.ite ?_ ?_
      | refine LeO.bind ?_ (fun _ => ?_)
set_option maxHeartbeats 8000000 in
set_option maxRecDepth 100000 in
theorem impl_given.calls (k : Nat) (A0 : Option Addr) (c0 : Nat) (l0 : List (S38)) (r : List (S66)) (w : World) (hr0 : Kd.C k38 w A0 l0.length l0) (hc0 : l0.length ≤ c0) (h : impl_given.f k l0 = some r) :
    Calls Tryd.prog 17 #[.slice A0 l0.length c0] w fun e w' => ∃ v0_ : Value, e = .returned (v0_) ∧ Kd.R k66 66 w' w.heap.size (fun _ => True) v0_ r ∧ Below w.heap.size w w' := by
  have hu38 := Tryd.underlying38
  have hu66 := Tryd.underlying66
  have HR0 := Aside0.mk hr0
  have HC0 := Aside0.mk hc0
  clear hr0 hc0
  have HB := Aside0.mk (Below.refl w.heap.size w)
  have H : (impl_given.l0 k (([] : List (S66))) l0 (l0.length : Int) 0) = some r := h
  clear h
  obtain ⟨y162, hy162⟩ : ∃ y_ : List (S66), y_ = (([] : List (S66))) := ⟨_, rfl⟩
  replace H : (impl_given.l0 k y162 l0 (l0.length : Int) 0) = some r := by first | (rw [hy162]; with_reducible exact H) | (have H2_ := (Option.bind_some _ _).symm.trans H; rw [hy162]; with_reducible exact H2_) | (have H2_ := (Option.bind_some _ _).symm.trans H; with_reducible exact H2_) | with_reducible exact H | (rw [hy162]; exact H) | exact H
  have Ny162 := Aside0.mk hy162
  clear hy162
  have H' := Aside0.mk H
  clear H
  go_enter Tryd.func17, Tryd.ntmps17
  go_wp2_with (first | ((with_reducible refine gate_dst (N := 6) rfl ?_); refine Kd.R_lit k66 _ 66 ?hg (N := 6) ?hd (xs := ([] : List (S66))) (inner := []) (ok := fun _ => True) (okp := fun _ => True) ?hr ?hp (fun _ hk => hk) trivial (Below.refl _ _) (Nat.le_refl _) (by simp) ?_; (case hd => rfl); (case hg => rfl); (case hr => first | (go_simp; done) | (go_simp; rfl)); (case hp => exact (Reps.none _ _)); intro v163 w2 ho3 hb hg_ hnew_; clear hg_ hnew_; (first | rw [← Ny162.out] at ho3 | (simp only [Int.reduceToNat] at ho3; rw [← Ny162.out] at ho3)); have n0_ := Aside0.mk (Kd.R_lower ho3 (below_size (by repeat (first | (with_reducible first | exact HB.out | apply below_alloc | apply pw_below_drewN | apply below_drew1) | exact HB.out)))); have n1_ := Aside0.mk (below_step (by repeat (first | (with_reducible first | exact HB.out | apply below_alloc | apply pw_below_drewN | apply below_drew1) | exact HB.out)) hb); clear HB; have HO164 := n0_; have HB := n1_; clear n0_ n1_; clear hb ho3))
  go_loopg [3, 9] k (fun kq v3 v9 w' => ∃ (x3_1 : List (S66)) (x9_1 : Int), v9 = .int .i64 x9_1 ∧ Aside0 (impl_given.l0 kq x3_1 l0 (l0.length : Int) x9_1 = some r) ∧ Aside0 (kq ≤ k) ∧ Aside0 (Kd.R k66 66 w' w.heap.size (fun _ => True) v3 x3_1) ∧ Aside0 (Below w.heap.size w w'))
  case atStart => exact ⟨(y162), (0), (by first | rfl | (simp; done) | (simp [*]; done)), H', ⟨Nat.le_refl _⟩, ⟨by (with_reducible repeat (first | apply Kd.R_alloc | apply Kd.R_drewN | apply Kd.R_drew)); exact HO164.out⟩, ⟨by repeat (first | (with_reducible first | exact HB.out | apply below_alloc | apply pw_below_drewN | apply below_drew1) | exact HB.out)⟩⟩
  case round =>
    clear H'
    try clear c1
    try clear p2
    obtain ⟨x3_1, x9_1, rfl, HA, HK1, HO_3, HB⟩ := hrel
    cases gk with
    | zero => exact absurd HA.out (by simp [impl_given.l0])
    | succ k1 =>
      have H := HA.out
      clear HA
      simp only [impl_given.l0] at H
      by_cases c4 : x9_1 < (l0.length : Int)
      · rw [if_pos c4] at H
        have c4b0 : decide (x9_1 < (l0.length : Int)) = true := decide_eq_true c4
        clear c4
        by_cases c5 : 0 ≤ x9_1
        · rw [if_pos c5] at H
          have c5b0 : decide (0 ≤ x9_1) = true := decide_eq_true c5
          clear c5
          by_cases c6 : x9_1 < (l0.length : Int)
          · rw [if_pos c6] at H
            have c6b0 : decide (x9_1 < (l0.length : Int)) = true := decide_eq_true c6
            clear c6
            by_cases c7 : x3_1.length < 4398046511104
            · rw [if_pos c7] at H
              have LMc7 := Aside0.mk c7
              clear c7
              obtain ⟨y167, hy167⟩ : ∃ y_ : List (S66), y_ = (x3_1 ++ [(⟨(rd_T38 l0 x9_1).f0, (rd_T38 l0 x9_1).f1, (rd_T38 l0 x9_1).f2⟩ : S66)]) := ⟨_, rfl⟩
              replace H : (impl_given.l0 k1 y167 l0 (l0.length : Int) (wrap64 (x9_1 + 1))) = some r := by first | (rw [hy167]; with_reducible exact H) | (have H2_ := (Option.bind_some _ _).symm.trans H; rw [hy167]; with_reducible exact H2_) | (have H2_ := (Option.bind_some _ _).symm.trans H; with_reducible exact H2_) | with_reducible exact H | (rw [hy167]; exact H) | exact H
              have Ny167 := Aside0.mk hy167
              clear hy167
              have H' := Aside0.mk H
              clear H
              have p165 : 0 ≤ (x9_1 : Int) := of_decide_eq_true (by first | (with_reducible assumption) | assumption)
              have q165 : x9_1 < (l0.length : Int) := of_decide_eq_true (by first | (with_reducible assumption) | assumption)
              obtain ⟨ad165, e165, hx165_0, hx165_1, hx165_2⟩ := at_T38 HR0.out x9_1 p165 q165
              cases e165
              replace hx165_0 := (HB.out.cell (World.block_lt_of_cell? w _ hx165_0)).trans hx165_0
              replace hx165_1 := (HB.out.cell (World.block_lt_of_cell? w _ hx165_1)).trans hx165_1
              replace hx165_2 := (HB.out.cell (World.block_lt_of_cell? w _ hx165_2)).trans hx165_2
              replace p165 := eq_true p165
              replace q165 := eq_true q165
              go_wp2_with (first | ((with_reducible refine gate_dst (N := 5) rfl ?_); refine box_event ?hg (N := 5) ?hd (cs := #[.int .i64 0, .int .i64 0, .string (⟨#[]⟩ : ByteArray)]) (t := 38) ?hr ?_; (case hd => rfl); (case hg => rfl); (case hr => first | (go_simp; done) | (go_simp; rfl)); intro gb166 hg w8 hbox hb; have n0_ := Aside0.mk (Kd.R_below (by (with_reducible repeat (first | apply Kd.R_alloc | apply Kd.R_drewN | apply Kd.R_drew)); exact HO_3.out) hb); have n1_ := Aside0.mk (below_step (by repeat (first | (with_reducible first | exact HB.out | apply below_alloc | apply pw_below_drewN | apply below_drew1) | exact HB.out)) hb); have n2_ := Aside0.mk (hbox); have n3_ := Aside0.mk ((by rw [hg]; exact (below_size (by repeat (first | (with_reducible first | exact HB.out | apply below_alloc | apply pw_below_drewN | apply below_drew1) | exact HB.out))) : w.heap.size ≤ gb166)); have n4_ := Aside0.mk ((by rw [hg]; exact (below_size (by repeat (first | (with_reducible first | exact HB.out | apply below_alloc | apply pw_below_drewN | apply below_drew1) | exact HB.out))) : w.heap.size ≤ gb166)); clear HO_3; clear HB; have HO_3 := n0_; have HB := n1_; have BK166 := n2_; have GW166 := n3_; have GE166 := n4_; clear n0_ n1_ n2_ n3_ n4_; clear hb hbox hg; have hcz9_0 : w8.cell? ⟨gb166, 0, none⟩ = some (.int .i64 0) := (blk_cell BK166.out 0).trans rfl; have hcz9_1 : w8.cell? ⟨gb166, 1, none⟩ = some (.int .i64 0) := (blk_cell BK166.out 1).trans rfl; have hcz9_2 : w8.cell? ⟨gb166, 2, none⟩ = some (.string (⟨#[]⟩ : ByteArray)) := (blk_cell BK166.out 2).trans rfl; have hfz9_0 := blk_frozen BK166.out 0; have hfz9_1 := blk_frozen BK166.out 1; have hfz9_2 := blk_frozen BK166.out 2) | ((with_reducible refine gate_builtin (b := .append) (xs := #[.tmp 13, .tmp 21]) rfl ?_); at_builtin; refine Kd.R_append k66 (w0 := w) w.heap.size rfl (.tmp 13) (.tmp 21) 47 66 (.agg #[(.int .i64 0), (.int .i64 0), (.string ⟨#[]⟩)]) 32 rfl Tryd.underlying47 info66 rfl (by decide) (by omega) u3 x3_1 (⟨(rd_T38 l0 x9_1).f0, (rd_T38 l0 x9_1).f1, (rd_T38 l0 x9_1).f2⟩ : S66) [.int .i64 ((rd_T38 l0 x9_1).f0), .int .i64 ((rd_T38 l0 x9_1).f1), .string ((rd_T38 l0 x9_1).f2)] (fun _ => True) (fun _ => False) rfl (by first | (go_simp; done) | (go_simp; rfl)) ?aP (fun _ hk => hk.elim) ?aF ?aO ?aB ?aS ?aL ?_; (case aP => exact k66_mkM _ _ _ (⟨(rd_T38 l0 x9_1).f0, (rd_T38 l0 x9_1).f1, (rd_T38 l0 x9_1).f2⟩ : S66)); (case aB => exact (by repeat (first | (with_reducible first | exact HB.out | apply below_alloc | apply pw_below_drewN | apply below_drew1 | refine below_set ?_ GE166.out) | exact HB.out))); (case aF => exact (fun _ _ => trivial)); (case aO => exact (by (with_reducible repeat (first | apply Kd.R_alloc | apply Kd.R_drewN | apply Kd.R_drew)); exact Kd.R_mono (Kd.R_far (p := ⟨gb166, 2, none⟩) (Kd.R_far (p := ⟨gb166, 1, none⟩) (Kd.R_far (p := ⟨gb166, 0, none⟩) (Kd.R_types HO_3.out BK166.out (by decide)) (fun _ hk => hk.2) (.int .i64 ((rd_T38 l0 x9_1).f0))) (fun _ hk => hk.2) (.int .i64 ((rd_T38 l0 x9_1).f1))) (fun _ hk => hk.2) (.string ((rd_T38 l0 x9_1).f2))) (fun _ hk => trivial))); (case aS => exact (below_size (by repeat (first | (with_reducible first | exact HB.out | apply below_alloc | apply pw_below_drewN | apply below_drew1 | refine below_set ?_ GE166.out) | exact HB.out)))); (case aL => have := LMc7.out; omega); intro v168 w10 ho hb hg hat; rw [← Ny167.out] at ho; have n0_ := Aside0.mk (blk_grown (g := gb166) (o := .cells #[.int .i64 ((rd_T38 l0 x9_1).f0), .int .i64 ((rd_T38 l0 x9_1).f1), .string ((rd_T38 l0 x9_1).f2)] 38 (0, 0)) (by (with_reducible repeat (first | refine blk_drewN ?_ _ | refine blk_drew ?_ | refine blk_alloc ?_ _)); refine blk_put (cs := #[.int .i64 ((rd_T38 l0 x9_1).f0), .int .i64 ((rd_T38 l0 x9_1).f1), .string (⟨#[]⟩ : ByteArray)]) ?_ 2 _ rfl; (with_reducible repeat (first | refine blk_drewN ?_ _ | refine blk_drew ?_ | refine blk_alloc ?_ _)); refine blk_put (cs := #[.int .i64 ((rd_T38 l0 x9_1).f0), .int .i64 0, .string (⟨#[]⟩ : ByteArray)]) ?_ 1 _ rfl; (with_reducible repeat (first | refine blk_drewN ?_ _ | refine blk_drew ?_ | refine blk_alloc ?_ _)); refine blk_put (cs := #[.int .i64 0, .int .i64 0, .string (⟨#[]⟩ : ByteArray)]) ?_ 0 _ rfl; (with_reducible repeat (first | refine blk_drewN ?_ _ | refine blk_drew ?_ | refine blk_alloc ?_ _)); exact BK166.out) hg (Kd.R_ne HO_3.out BK166.out (by decide))); have n1_ := Aside0.mk (hb); have n2_ := Aside0.mk (ho); clear BK166; clear HB; clear HO_3; have BK166 := n0_; have HB := n1_; have HO169 := n2_; clear n0_ n1_ n2_; clear ho hb hg hat))
              go_roundg k1
              case measure => have := HK1.out; omega
              case rel => exact ⟨(y167), (wrap64 (x9_1 + 1)), (by first | rfl | (simp; done) | (simp [*]; done)), H', ⟨by have := HK1.out; omega⟩, ⟨by (with_reducible repeat (first | apply Kd.R_alloc | apply Kd.R_drewN | apply Kd.R_drew)); exact HO169.out⟩, ⟨by repeat (first | (with_reducible first | exact HB.out | apply below_alloc | apply pw_below_drewN | apply below_drew1 | refine below_set ?_ GE166.out) | exact HB.out)⟩⟩
            · rw [if_neg c7] at H
              exact absurd H (by simp)
          · rw [if_neg c6] at H
            exact absurd H (by simp)
        · rw [if_neg c5] at H
          exact absurd H (by simp)
      · rw [if_neg c4] at H
        have c4b0 : decide (x9_1 < (l0.length : Int)) = false := decide_eq_false c4
        clear c4
        obtain rfl := Option.some.inj H
        go_wp2
        go_ret
        exact ⟨_, by first | rfl | (simp [errW_none, errW_some] <;> rfl) | (simp [*, errW_none, errW_some] <;> rfl), by (with_reducible repeat (first | apply Kd.R_alloc | apply Kd.R_drewN | apply Kd.R_drew)); exact HO_3.out, by repeat (first | (with_reducible first | exact HB.out | apply below_alloc | apply pw_below_drewN | apply below_drew1) | exact HB.out)⟩

-- NOT PRINTED: function 10 (impl_ToUnified)

/-! ### laws_context: function 11 -/
def laws_context.f (a0 : Int) : Option (Int) := some (wrap64 (1 + (Int.tmod (wrap64 ((Int.tmod a0 8) + 8)) 8)))
set_option maxHeartbeats 8000000 in
set_option maxRecDepth 100000 in
theorem laws_context.calls (a0 : Int) (r : Int) (w : World) (h : laws_context.f a0 = some r) :
    Calls Tryd.prog 11 #[.int .i64 a0] w fun e w' => e = .returned (.int .i64 r) ∧ Drawn0 w w' := by
  have H : (some (wrap64 (1 + (Int.tmod (wrap64 ((Int.tmod a0 8) + 8)) 8)))) = some r := h
  clear h
  obtain rfl := Option.some.inj H
  go_enter Tryd.func11, Tryd.ntmps11
  go_wp2
  go_ret
  exact ⟨by first | rfl | (simp; done) | (simp [*]; done), by repeat (first | exact Drawn0.refl _ | apply Drawn0.step)⟩

end Go.Proofs.YtonajgipkpnpoaaDoor.QFnToUnifiedReads
