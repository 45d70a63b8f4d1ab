/- Printed by the kit's print; these sections cut out by wip/gen/cutfn.py. -/
import Derived.Test.YtonajgipkpnpoaaDoorQFnToUnifiedReadsx0
namespace Go.Proofs.YtonajgipkpnpoaaDoor.PFnToUnifiedReads
open Go.RowKit Go.Proofs.YtonajgipkpnpoaaDoorW.PrintWords Go.Proofs.YtonajgipkpnpoaaDoorW.PrintLast Go.Proofs.YtonajgipkpnpoaaDoorW.PrintMore
open Go.Proofs.YtonajgipkpnpoaaDoor.QFnToUnifiedReads
attribute [local go_sem] max2_int min2_int max_two min_two max_three min_three max_four min_four   -- for this text's walks alone
set_option linter.unusedVariables false
set_option linter.unusedSimpArgs false

/-! ### spec_LinesOf: function 18 -/
def spec_LinesOf.l0 : Nat → ByteArray → List ByteArray → Int → Int → Int → Option (List ByteArray)
  | 0, _, _, _, _, _ => none
  | k + 1, x0, x3, x4, x8, x9 => if x9 < x8 then (if 0 ≤ x9 then (if x9 < (x0.size : Int) then (if (bt x0 x9) = 10 then (if 0 ≤ x4 then (if x4 ≤ (wrap64 (x9 + 1)) then (if (wrap64 (x9 + 1)) ≤ (x0.size : Int) then (if x3.length < 8796093022208 then (spec_LinesOf.l0 k x0 (x3 ++ [x0.extract (x4 : Int).toNat ((wrap64 (x9 + 1)) : Int).toNat]) (wrap64 (x9 + 1)) x8 (wrap64 (x9 + 1))) else (none)) else (none)) else (none)) else (none)) else (spec_LinesOf.l0 k x0 x3 x4 x8 (wrap64 (x9 + 1)))) else (none)) else (none)) else (if x4 < (x0.size : Int) then (if 0 ≤ x4 then (if x4 ≤ (x0.size : Int) then (if x3.length < 8796093022208 then (some (x3 ++ [x0.extract (x4 : Int).toNat x0.size])) else (none)) else (none)) else (none)) else (some x3))
def spec_LinesOf.f (k : Nat) (a0 : ByteArray) : Option (List ByteArray) := spec_LinesOf.l0 k a0 (([] : List ByteArray)) 0 (a0.size : Int) 0
theorem spec_LinesOf.mono_l : ∀ k, (∀ y0 y1 y2 y3 y4, LeO (spec_LinesOf.l0 k y0 y1 y2 y3 y4) (spec_LinesOf.l0 (k + 1) y0 y1 y2 y3 y4))
  | 0 => fun _ _ _ _ _ r h => by simp [spec_LinesOf.l0] at h
  | k + 1 => by
    have ih0 := spec_LinesOf.mono_l k
    · intro y0 y1 y2 y3 y4
      unfold spec_LinesOf.l0
      repeat' first
      | (with_reducible exact ih0 _ _ _ _ _)
      | (with_reducible exact LeO.refl _)
      | (with_reducible exact LeO.none _)
      | (with_reducible refine LeO.ite ?_ ?_)
      | (with_reducible refine LeO.bind ?_ (fun _ => ?_))
      | exact ih0 _ _ _ _ _
      | exact LeO.none _
      | refine LeO.ite ?_ ?_
      | refine LeO.bind ?_ (fun _ => ?_)
theorem spec_LinesOf.mono : ∀ a0 k, LeO (spec_LinesOf.f k a0) (spec_LinesOf.f (k + 1) a0) := by
  intro a0 k
  have ih0 := spec_LinesOf.mono_l k
  unfold spec_LinesOf.f
  repeat' first
      | (with_reducible exact ih0 _ _ _ _ _)
      | (with_reducible exact LeO.refl _)
      | (with_reducible exact LeO.none _)
      | (with_reducible refine LeO.ite ?_ ?_)
      | (with_reducible refine LeO.bind ?_ (fun _ => ?_))
      | exact ih0 _ _ _ _ _
      | exact LeO.none _
      | refine LeO.ite ?_ ?_
      | refine LeO.bind ?_ (fun _ => ?_)
set_option maxHeartbeats 8000000 in
set_option maxRecDepth 100000 in
theorem spec_LinesOf.calls (k : Nat) (a0 : ByteArray) (r : List ByteArray) (w : World) (h : spec_LinesOf.f k a0 = some r) :
    Calls Tryd.prog 18 #[.string a0] w fun e w' => ∃ v0_ : Value, e = .returned (v0_) ∧ Kd.R Kd.string 9 w' w.heap.size (fun _ => True) v0_ r ∧ Below w.heap.size w w' := by
  have HB := Aside0.mk (Below.refl w.heap.size w)
  have H : (spec_LinesOf.l0 k a0 (([] : List ByteArray)) 0 (a0.size : Int) 0) = some r := h
  clear h
  obtain ⟨y186, hy186⟩ : ∃ y_ : List ByteArray, y_ = (([] : List ByteArray)) := ⟨_, rfl⟩
  replace H : (spec_LinesOf.l0 k a0 y186 0 (a0.size : Int) 0) = some r := by first | (rw [hy186]; with_reducible exact H) | (have H2_ := (Option.bind_some _ _).symm.trans H; rw [hy186]; with_reducible exact H2_) | (have H2_ := (Option.bind_some _ _).symm.trans H; with_reducible exact H2_) | with_reducible exact H | (rw [hy186]; exact H) | exact H
  have Ny186 := Aside0.mk hy186
  clear hy186
  have H' := Aside0.mk H
  clear H
  go_enter Tryd.func18, Tryd.ntmps18
  go_wp2_with (first | ((with_reducible refine gate_dst (N := 6) rfl ?_); refine Kd.R_lit Kd.string _ 9 ?hg (N := 6) ?hd (xs := ([] : List ByteArray)) (inner := []) (ok := fun _ => True) (okp := fun _ => True) ?hr ?hp (fun _ hk => hk) trivial (Below.refl _ _) (Nat.le_refl _) (by simp) ?_; (case hd => rfl); (case hg => rfl); (case hr => first | (go_simp; done) | (go_simp; rfl)); (case hp => exact (Reps.none _ _)); intro v187 w2 ho3 hb hg_ hnew_; clear hg_ hnew_; (first | rw [← Ny186.out] at ho3 | (simp only [Int.reduceToNat] at ho3; rw [← Ny186.out] at ho3)); have n0_ := Aside0.mk (Kd.R_lower ho3 (below_size (by repeat (first | (with_reducible first | exact HB.out | apply below_alloc | apply pw_below_drewN | apply below_drew1) | exact HB.out)))); have n1_ := Aside0.mk (below_step (by repeat (first | (with_reducible first | exact HB.out | apply below_alloc | apply pw_below_drewN | apply below_drew1) | exact HB.out)) hb); clear HB; have HO188 := n0_; have HB := n1_; clear n0_ n1_; clear hb ho3))
  go_loopg [3, 4, 9] k (fun kq v3 v4 v9 w' => ∃ (x3_1 : List ByteArray) (x4_1 : Int) (x9_1 : Int), v4 = .int .i64 x4_1 ∧ v9 = .int .i64 x9_1 ∧ Aside0 (spec_LinesOf.l0 kq a0 x3_1 x4_1 (a0.size : Int) x9_1 = some r) ∧ Aside0 (kq ≤ k) ∧ Aside0 (Kd.R Kd.string 9 w' w.heap.size (fun _ => True) v3 x3_1) ∧ Aside0 (Below w.heap.size w w'))
  case atStart => exact ⟨(y186), (0), (0), (by first | rfl | (simp; done) | (simp [*]; done)), (by first | rfl | (simp; done) | (simp [*]; done)), H', ⟨Nat.le_refl _⟩, ⟨by (with_reducible repeat (first | apply Kd.R_alloc | apply Kd.R_drewN | apply Kd.R_drew)); exact HO188.out⟩, ⟨by repeat (first | (with_reducible first | exact HB.out | apply below_alloc | apply pw_below_drewN | apply below_drew1) | exact HB.out)⟩⟩
  case round =>
    clear H'
    try clear c1
    try clear p2
    obtain ⟨x3_1, x4_1, x9_1, rfl, rfl, HA, HK1, HO_3, HB⟩ := hrel
    cases gk with
    | zero => exact absurd HA.out (by simp [spec_LinesOf.l0])
    | succ k1 =>
      have H := HA.out
      clear HA
      simp only [spec_LinesOf.l0] at H
      by_cases c4 : x9_1 < (a0.size : Int)
      · rw [if_pos c4] at H
        have c4b0 : decide (x9_1 < (a0.size : Int)) = true := decide_eq_true c4
        clear c4
        by_cases c5 : 0 ≤ x9_1
        · rw [if_pos c5] at H
          have c5b0 : decide (0 ≤ x9_1) = true := decide_eq_true c5
          clear c5
          by_cases c6 : x9_1 < (a0.size : Int)
          · rw [if_pos c6] at H
            have c6b0 : decide (x9_1 < (a0.size : Int)) = true := decide_eq_true c6
            clear c6
            by_cases c8 : (bt a0 x9_1) = 10
            · rw [if_pos c8] at H
              have c8b0 : ((bt a0 x9_1) == 10) = true := beq_iff_eq.mpr c8
              have c8b1 : ((bt a0 x9_1) != 10) = false := bne_eq_false_iff_eq.mpr c8
              clear c8
              by_cases c9 : 0 ≤ x4_1
              · rw [if_pos c9] at H
                have c9b0 := eq_true c9
                have c9b1 : decide (0 ≤ x4_1) = true := decide_eq_true c9
                clear c9
                by_cases c10 : x4_1 ≤ (wrap64 (x9_1 + 1))
                · rw [if_pos c10] at H
                  have c10b0 := eq_true c10
                  have c10b1 : decide (x4_1 ≤ (wrap64 (x9_1 + 1))) = true := decide_eq_true c10
                  by_cases c11 : (wrap64 (x9_1 + 1)) ≤ (a0.size : Int)
                  · rw [if_pos c11] at H
                    have c11b0 := eq_true c11
                    have c11b1 : decide ((wrap64 (x9_1 + 1)) ≤ (a0.size : Int)) = true := decide_eq_true c11
                    by_cases c12 : x3_1.length < 8796093022208
                    · rw [if_pos c12] at H
                      have LMc12 := Aside0.mk c12
                      clear c12
                      obtain ⟨y189, hy189⟩ : ∃ y_ : List ByteArray, y_ = (x3_1 ++ [a0.extract (x4_1 : Int).toNat ((wrap64 (x9_1 + 1)) : Int).toNat]) := ⟨_, rfl⟩
                      replace H : (spec_LinesOf.l0 k1 a0 y189 (wrap64 (x9_1 + 1)) (a0.size : Int) (wrap64 (x9_1 + 1))) = some r := by first | (rw [hy189]; with_reducible exact H) | (have H2_ := (Option.bind_some _ _).symm.trans H; rw [hy189]; with_reducible exact H2_) | (have H2_ := (Option.bind_some _ _).symm.trans H; with_reducible exact H2_) | with_reducible exact H | (rw [hy189]; exact H) | exact H
                      have Ny189 := Aside0.mk hy189
                      clear hy189
                      have H' := Aside0.mk H
                      clear H
                      have p7 : 0 ≤ (x9_1 : Int) := of_decide_eq_true (by first | (with_reducible assumption) | assumption)
                      have q7 : x9_1 < (a0.size : Int) := of_decide_eq_true (by first | (with_reducible assumption) | assumption)
                      have hx7 := bt_at a0 x9_1
                      replace p7 := eq_true p7
                      replace q7 := eq_true q7
                      go_wp2_with (first | ((with_reducible refine gate_builtin (b := .append) (xs := #[.tmp 16, .tmp 22]) rfl ?_); at_builtin; refine Kd.R_append Kd.string (w0 := w) w.heap.size rfl (.tmp 16) (.tmp 22) 50 9 (.string ⟨#[]⟩) 16 rfl Tryd.underlying50 info9 rfl (by decide) (by omega) u3 x3_1 (a0.extract (x4_1 : Int).toNat ((wrap64 (x9_1 + 1)) : Int).toNat) [.string (a0.extract (x4_1 : Int).toNat ((wrap64 (x9_1 + 1)) : Int).toNat)] (fun _ => True) (fun _ => False) rfl rfl ?aP (fun _ hk => hk.elim) ?aF ?aO ?aB ?aS ?aL ?_; (case aP => exact rfl); (case aB => exact (by repeat (first | (with_reducible first | exact HB.out | apply below_alloc | apply pw_below_drewN | apply below_drew1) | exact HB.out))); (case aF => exact (fun _ _ => trivial)); (case aO => exact (by (with_reducible repeat (first | apply Kd.R_alloc | apply Kd.R_drewN | apply Kd.R_drew)); exact HO_3.out)); (case aS => exact (below_size (by repeat (first | (with_reducible first | exact HB.out | apply below_alloc | apply pw_below_drewN | apply below_drew1) | exact HB.out)))); (case aL => have := LMc12.out; omega); intro v190 w13 ho hb hg hat; rw [← Ny189.out] at ho; have n0_ := Aside0.mk (hb); have n1_ := Aside0.mk (ho); clear HB; clear HO_3; have HB := n0_; have HO191 := n1_; clear n0_ n1_; clear ho hb hg hat))
                      go_roundg k1
                      case measure => have := HK1.out; omega
                      case rel => exact ⟨(y189), (wrap64 (x9_1 + 1)), (wrap64 (x9_1 + 1)), (by first | rfl | (simp; done) | (simp [*]; done)), (by first | rfl | (simp; done) | (simp [*]; done)), H', ⟨by have := HK1.out; omega⟩, ⟨by (with_reducible repeat (first | apply Kd.R_alloc | apply Kd.R_drewN | apply Kd.R_drew)); exact HO191.out⟩, ⟨by repeat (first | (with_reducible first | exact HB.out | apply below_alloc | apply pw_below_drewN | apply below_drew1) | exact HB.out)⟩⟩
                    · rw [if_neg c12] at H
                      exact absurd H (by simp)
                  · rw [if_neg c11] at H
                    exact absurd H (by simp)
                · rw [if_neg c10] at H
                  exact absurd H (by simp)
              · rw [if_neg c9] at H
                exact absurd H (by simp)
            · rw [if_neg c8] at H
              have c8b0 : ((bt a0 x9_1) == 10) = false := beq_eq_false_iff_ne.mpr c8
              have c8b1 : ((bt a0 x9_1) != 10) = true := bne_iff_ne.mpr c8
              have H' := Aside0.mk H
              clear H
              have p7 : 0 ≤ (x9_1 : Int) := of_decide_eq_true (by first | (with_reducible assumption) | assumption)
              have q7 : x9_1 < (a0.size : Int) := of_decide_eq_true (by first | (with_reducible assumption) | assumption)
              have hx7 := bt_at a0 x9_1
              replace p7 := eq_true p7
              replace q7 := eq_true q7
              go_wp2
              go_roundg k1
              case measure => have := HK1.out; omega
              case rel => exact ⟨(x3_1), (x4_1), (wrap64 (x9_1 + 1)), (by first | rfl | (simp; done) | (simp [*]; done)), (by first | rfl | (simp; done) | (simp [*]; done)), H', ⟨by have := HK1.out; omega⟩, ⟨by (with_reducible repeat (first | apply Kd.R_alloc | apply Kd.R_drewN | apply Kd.R_drew)); exact HO_3.out⟩, ⟨by repeat (first | (with_reducible first | exact HB.out | apply below_alloc | apply pw_below_drewN | apply below_drew1) | exact HB.out)⟩⟩
          · rw [if_neg c6] at H
            exact absurd H (by simp)
        · rw [if_neg c5] at H
          exact absurd H (by simp)
      · rw [if_neg c4] at H
        have c4b0 : decide (x9_1 < (a0.size : Int)) = false := decide_eq_false c4
        clear c4
        by_cases c14 : x4_1 < (a0.size : Int)
        · rw [if_pos c14] at H
          have c14b0 : decide (x4_1 < (a0.size : Int)) = true := decide_eq_true c14
          clear c14
          by_cases c15 : 0 ≤ x4_1
          · rw [if_pos c15] at H
            have c15b0 := eq_true c15
            have c15b1 : decide (0 ≤ x4_1) = true := decide_eq_true c15
            clear c15
            by_cases c16 : x4_1 ≤ (a0.size : Int)
            · rw [if_pos c16] at H
              have c16b0 := eq_true c16
              have c16b1 : decide (x4_1 ≤ (a0.size : Int)) = true := decide_eq_true c16
              clear c16
              by_cases c17 : x3_1.length < 8796093022208
              · rw [if_pos c17] at H
                have LMc17 := Aside0.mk c17
                clear c17
                obtain ⟨y192, hy192⟩ : ∃ y_ : List ByteArray, y_ = (x3_1 ++ [a0.extract (x4_1 : Int).toNat a0.size]) := ⟨_, rfl⟩
                replace H : (some y192) = some r := by first | (rw [hy192]; with_reducible exact H) | (have H2_ := (Option.bind_some _ _).symm.trans H; rw [hy192]; with_reducible exact H2_) | (have H2_ := (Option.bind_some _ _).symm.trans H; with_reducible exact H2_) | with_reducible exact H | (rw [hy192]; exact H) | exact H
                have Ny192 := Aside0.mk hy192
                clear hy192
                obtain rfl := Option.some.inj H
                go_wp2_with (first | ((with_reducible refine gate_builtin (b := .append) (xs := #[.tmp 31, .tmp 35]) rfl ?_); at_builtin; refine Kd.R_append Kd.string (w0 := w) w.heap.size rfl (.tmp 31) (.tmp 35) 50 9 (.string ⟨#[]⟩) 16 rfl Tryd.underlying50 info9 rfl (by decide) (by omega) u3 x3_1 (a0.extract (x4_1 : Int).toNat a0.size) [.string (a0.extract (x4_1 : Int).toNat a0.size)] (fun _ => True) (fun _ => False) rfl rfl ?aP (fun _ hk => hk.elim) ?aF ?aO ?aB ?aS ?aL ?_; (case aP => exact rfl); (case aB => exact (by repeat (first | (with_reducible first | exact HB.out | apply below_alloc | apply pw_below_drewN | apply below_drew1) | exact HB.out))); (case aF => exact (fun _ _ => trivial)); (case aO => exact (by (with_reducible repeat (first | apply Kd.R_alloc | apply Kd.R_drewN | apply Kd.R_drew)); exact HO_3.out)); (case aS => exact (below_size (by repeat (first | (with_reducible first | exact HB.out | apply below_alloc | apply pw_below_drewN | apply below_drew1) | exact HB.out)))); (case aL => have := LMc17.out; omega); intro v193 w18 ho hb hg hat; rw [← Ny192.out] at ho; have n0_ := Aside0.mk (hb); have n1_ := Aside0.mk (ho); clear HB; clear HO_3; have HB := n0_; have HO194 := n1_; clear n0_ n1_; clear ho hb hg hat))
                go_ret
                exact ⟨_, by first | rfl | (simp [errW_none, errW_some] <;> rfl) | (simp [*, errW_none, errW_some] <;> rfl), by (with_reducible repeat (first | apply Kd.R_alloc | apply Kd.R_drewN | apply Kd.R_drew)); exact HO194.out, by repeat (first | (with_reducible first | exact HB.out | apply below_alloc | apply pw_below_drewN | apply below_drew1) | exact HB.out)⟩
              · rw [if_neg c17] at H
                exact absurd H (by simp)
            · rw [if_neg c16] at H
              exact absurd H (by simp)
          · rw [if_neg c15] at H
            exact absurd H (by simp)
        · rw [if_neg c14] at H
          have c14b0 : decide (x4_1 < (a0.size : Int)) = false := decide_eq_false c14
          clear c14
          obtain rfl := Option.some.inj H
          go_wp2
          go_ret
          exact ⟨_, by first | rfl | (simp [errW_none, errW_some] <;> rfl) | (simp [*, errW_none, errW_some] <;> rfl), by (with_reducible repeat (first | apply Kd.R_alloc | apply Kd.R_drewN | apply Kd.R_drew)); exact HO_3.out, by repeat (first | (with_reducible first | exact HB.out | apply below_alloc | apply pw_below_drewN | apply below_drew1) | exact HB.out)⟩

/-- A state of type 53 at block g of W; what its slices lead to came in by w0. -/
def IsS53 (w0 W : World) (g : Nat) (f0 : ByteArray) (f1 : Int) (f2 : Bool) (f3 : List ByteArray) (f4 : Int) (f5 : List ByteArray) : Prop := ∃ A3 c3, ∃ A5 c5, W.heap[g]? = some (.cells #[.string f0, .int .i64 f1, .bool f2, .slice A3 f3.length c3, .int .i64 f4, .slice A5 f5.length c5] 53 (0, 0)) ∧ w0.heap.size ≤ g ∧ Kd.C Kd.string w0 A3 f3.length f3 ∧ Kd.C Kd.string w0 A5 f5.length f5
theorem IsS53.grown {w0 W : World} {g : Nat} {f0 : ByteArray} {f1 : Int} {f2 : Bool} {f3 : List ByteArray} {f4 : Int} {f5 : List ByteArray} {W1 : World} {row : Option Nat} (h : IsS53 w0 W g f0 f1 f2 f3 f4 f5) (hw : W.grownBy W1 row) (hne : some g ≠ row) : IsS53 w0 W1 g f0 f1 f2 f3 f4 f5 := by
  obtain ⟨A3, c3, A5, c5, hb, hg, hr3, hr5⟩ := h
  exact ⟨A3, c3, A5, c5, blk_grown hb hw hne, hg, hr3, hr5⟩
theorem IsS53.own_neN {w0 W : World} {g : Nat} {f0 : ByteArray} {f1 : Int} {f2 : Bool} {f3 : List ByteArray} {f4 : Int} {f5 : List ByteArray} {α : Type} {d : Kd α} {e : Nat} {base : Nat} {ok : Nat → Prop} {v : Value} {xs : List α} (h : IsS53 w0 W g f0 f1 f2 f3 f4 f5) (ho : Kd.N d e W base ok v xs) (ht : e ≠ 53) : some g ≠ v.ownBlock := by
  obtain ⟨A3, c3, A5, c5, hb, hg, hr3, hr5⟩ := h
  exact Kd.N_ne ho hb ht
theorem IsS53.fresh {w0 W : World} {g : Nat} {f0 : ByteArray} {f1 : Int} {f2 : Bool} {f3 : List ByteArray} {f4 : Int} {f5 : List ByteArray} (h : IsS53 w0 W g f0 f1 f2 f3 f4 f5) : ∀ k, W.heap.size ≤ k → k ≠ g := by
  obtain ⟨A3, c3, A5, c5, hb, hg, hr3, hr5⟩ := h
  exact Kd.freshB hb
theorem IsS53.kept {w0 W : World} {g : Nat} {f0 : ByteArray} {f1 : Int} {f2 : Bool} {f3 : List ByteArray} {f4 : Int} {f5 : List ByteArray} {W1 : World} {S : Nat → Prop} (h : IsS53 w0 W g f0 f1 f2 f3 f4 f5) (hk : Kept W W1 S) (hne : ¬ S g) : IsS53 w0 W1 g f0 f1 f2 f3 f4 f5 := by
  obtain ⟨A3, c3, A5, c5, hb, hg, hr3, hr5⟩ := h
  exact ⟨A3, c3, A5, c5, blk_kept hb hk hne, hg, hr3, hr5⟩
theorem IsS53.below {w0 W : World} {g : Nat} {f0 : ByteArray} {f1 : Int} {f2 : Bool} {f3 : List ByteArray} {f4 : Int} {f5 : List ByteArray} {W1 : World} (h : IsS53 w0 W g f0 f1 f2 f3 f4 f5) (hw : Below W.heap.size W W1) : IsS53 w0 W1 g f0 f1 f2 f3 f4 f5 := h.grown (grown_of_below hw none) (by simp)
theorem IsS53.alloc {w0 W : World} {g : Nat} {f0 : ByteArray} {f1 : Int} {f2 : Bool} {f3 : List ByteArray} {f4 : Int} {f5 : List ByteArray} (h : IsS53 w0 W g f0 f1 f2 f3 f4 f5) (o : Obj) : IsS53 w0 (W.alloc o) g f0 f1 f2 f3 f4 f5 := h.below (below_alloc (Below.refl _ _) o)
theorem IsS53.drewN {w0 W : World} {g : Nat} {f0 : ByteArray} {f1 : Int} {f2 : Bool} {f3 : List ByteArray} {f4 : Int} {f5 : List ByteArray} (h : IsS53 w0 W g f0 f1 f2 f3 f4 f5) (m : Nat) : IsS53 w0 (W.drewN m) g f0 f1 f2 f3 f4 f5 := h
theorem IsS53.drew {w0 W : World} {g : Nat} {f0 : ByteArray} {f1 : Int} {f2 : Bool} {f3 : List ByteArray} {f4 : Int} {f5 : List ByteArray} (h : IsS53 w0 W g f0 f1 f2 f3 f4 f5) : IsS53 w0 W.drew g f0 f1 f2 f3 f4 f5 := h
theorem IsS53.at_ {w0 W : World} {g : Nat} {f0 : ByteArray} {f1 : Int} {f2 : Bool} {f3 : List ByteArray} {f4 : Int} {f5 : List ByteArray} {w' : World} {m : Nat} (hq : W.drewN m = w') (h : IsS53 w0 W g f0 f1 f2 f3 f4 f5) : IsS53 w0 w' g f0 f1 f2 f3 f4 f5 := by subst hq; exact IsS53.drewN h m
theorem IsS53.apart {w0 W : World} {g : Nat} {f0 : ByteArray} {f1 : Int} {f2 : Bool} {f3 : List ByteArray} {f4 : Int} {f5 : List ByteArray} {α : Type} {d : Kd α} {e : Nat} {base : Nat} {ok : Nat → Prop} {v : Value} {xs : List α} (h : IsS53 w0 W g f0 f1 f2 f3 f4 f5) (ho : d.R e W base ok v xs) (ht : ∀ q, q ∈ e :: d.E → q ≠ 53) : d.R e W base (fun k => ok k ∧ k ≠ g) v xs := by
  obtain ⟨A3, c3, A5, c5, hb, hg, hr3, hr5⟩ := h
  exact Kd.R_types ho hb ht
theorem IsS53.own_ne {w0 W : World} {g : Nat} {f0 : ByteArray} {f1 : Int} {f2 : Bool} {f3 : List ByteArray} {f4 : Int} {f5 : List ByteArray} {α : Type} {d : Kd α} {e : Nat} {base : Nat} {ok : Nat → Prop} {v : Value} {xs : List α} (h : IsS53 w0 W g f0 f1 f2 f3 f4 f5) (ho : d.R e W base ok v xs) (ht : e ≠ 53) : some g ≠ v.ownBlock := by
  obtain ⟨A3, c3, A5, c5, hb, hg, hr3, hr5⟩ := h
  exact Kd.R_ne ho hb ht
theorem IsS53.apartQ {w0 W : World} {g : Nat} {f0 : ByteArray} {f1 : Int} {f2 : Bool} {f3 : List ByteArray} {f4 : Int} {f5 : List ByteArray} {α : Type} {d : Kd α} {e : Nat} {base : Nat} {ok : Nat → Prop} {v : Value} {xs : List α} (h : IsS53 w0 W g f0 f1 f2 f3 f4 f5) (ho : d.Q e W base ok v xs) (ht : ∀ q, q ∈ e :: d.E → q ≠ 53) : d.Q e W base (fun k => ok k ∧ k ≠ g) v xs := by
  obtain ⟨A3, c3, A5, c5, hb, hg, hr3, hr5⟩ := h
  exact Kd.Q_types ho hb ht
theorem IsS53.own_neQ {w0 W : World} {g : Nat} {f0 : ByteArray} {f1 : Int} {f2 : Bool} {f3 : List ByteArray} {f4 : Int} {f5 : List ByteArray} {α : Type} {d : Kd α} {e : Nat} {base : Nat} {ok : Nat → Prop} {v : Value} {xs : List α} (h : IsS53 w0 W g f0 f1 f2 f3 f4 f5) (ho : d.Q e W base ok v xs) (ht : e ≠ 53) : some g ≠ v.ownBlock := by
  obtain ⟨A3, c3, A5, c5, hb, hg, hr3, hr5⟩ := h
  exact Kd.Q_ne ho hb ht
theorem IsS53.apartS {w0 W : World} {g : Nat} {f0 : ByteArray} {f1 : Int} {f2 : Bool} {f3 : List ByteArray} {f4 : Int} {f5 : List ByteArray} {α : Type} {d : Kd α} {e : Nat} {base : Nat} {ok : Nat → Prop} {v : Value} {xs : List α} (h : IsS53 w0 W g f0 f1 f2 f3 f4 f5) (ho : d.S e W base ok v xs) (ht : ∀ q, q ∈ e :: d.E → q ≠ 53) : d.S e W base (fun k => ok k ∧ k ≠ g) v xs := by
  obtain ⟨A3, c3, A5, c5, hb, hg, hr3, hr5⟩ := h
  exact Kd.S_types ho hb ht
theorem IsS53.own_neS {w0 W : World} {g : Nat} {f0 : ByteArray} {f1 : Int} {f2 : Bool} {f3 : List ByteArray} {f4 : Int} {f5 : List ByteArray} {α : Type} {d : Kd α} {e : Nat} {base : Nat} {ok : Nat → Prop} {v : Value} {xs : List α} (h : IsS53 w0 W g f0 f1 f2 f3 f4 f5) (ho : d.S e W base ok v xs) (ht : e ≠ 53) : some g ≠ v.ownBlock := by
  obtain ⟨A3, c3, A5, c5, hb, hg, hr3, hr5⟩ := h
  exact Kd.S_ne ho hb ht
theorem IsS53.lt {w0 W : World} {g : Nat} {f0 : ByteArray} {f1 : Int} {f2 : Bool} {f3 : List ByteArray} {f4 : Int} {f5 : List ByteArray} (h : IsS53 w0 W g f0 f1 f2 f3 f4 f5) : g < W.heap.size := by
  obtain ⟨A3, c3, A5, c5, hb, hg, hr3, hr5⟩ := h
  exact blk_lt hb
theorem IsS53.ge {w0 W : World} {g : Nat} {f0 : ByteArray} {f1 : Int} {f2 : Bool} {f3 : List ByteArray} {f4 : Int} {f5 : List ByteArray} (h : IsS53 w0 W g f0 f1 f2 f3 f4 f5) : w0.heap.size ≤ g := by
  obtain ⟨A3, c3, A5, c5, hb, hg, hr3, hr5⟩ := h
  exact hg
theorem IsS53.ne_blk {w0 W : World} {g : Nat} {f0 : ByteArray} {f1 : Int} {f2 : Bool} {f3 : List ByteArray} {f4 : Int} {f5 : List ByteArray} {a : Nat} {cs : Array Value} {t : TypeId} {fr : Nat × Nat} (h : IsS53 w0 W g f0 f1 f2 f3 f4 f5) (hb2 : W.heap[a]? = some (.cells cs t fr)) (ht : t ≠ 53) : g ≠ a := by
  obtain ⟨A3, c3, A5, c5, hb, hg, hr3, hr5⟩ := h
  rintro rfl
  rw [hb] at hb2
  injection hb2 with hb2
  injection hb2 with _ ht2
  exact ht ht2.symm
theorem IsS53.far {w0 W : World} {g : Nat} {f0 : ByteArray} {f1 : Int} {f2 : Bool} {f3 : List ByteArray} {f4 : Int} {f5 : List ByteArray} {p : Addr} (h : IsS53 w0 W g f0 f1 f2 f3 f4 f5) (hne : g ≠ p.block) (u : Value) : IsS53 w0 (W.setCell p u) g f0 f1 f2 f3 f4 f5 := by
  obtain ⟨A3, c3, A5, c5, hb, hg, hr3, hr5⟩ := h
  exact ⟨A3, c3, A5, c5, blk_far hb hne u, hg, hr3, hr5⟩
theorem cellS53_0 {W : World} {g : Nat} {A3 : Option Addr} {c3 : Nat} {A5 : Option Addr} {c5 : Nat} {f0 : ByteArray} {f1 : Int} {f2 : Bool} {f3 : List ByteArray} {f4 : Int} {f5 : List ByteArray} (h : W.heap[g]? = some (.cells #[.string f0, .int .i64 f1, .bool f2, .slice A3 f3.length c3, .int .i64 f4, .slice A5 f5.length c5] 53 (0, 0))) : W.cell? ⟨g, 0, none⟩ = some (.string f0) := (blk_cell h 0).trans rfl
theorem IsS53.set_0 {w0 W : World} {g : Nat} {f0 : ByteArray} {f1 : Int} {f2 : Bool} {f3 : List ByteArray} {f4 : Int} {f5 : List ByteArray} (h : IsS53 w0 W g f0 f1 f2 f3 f4 f5) (x : ByteArray) : IsS53 w0 (W.setCell ⟨g, 0, none⟩ (.string x)) g x f1 f2 f3 f4 f5 := by
  obtain ⟨A3, c3, A5, c5, hb, hg, hr3, hr5⟩ := h
  exact ⟨A3, c3, A5, c5, by simpa using blk_set hb 0 (.string x), hg, hr3, hr5⟩
theorem cellS53_1 {W : World} {g : Nat} {A3 : Option Addr} {c3 : Nat} {A5 : Option Addr} {c5 : Nat} {f0 : ByteArray} {f1 : Int} {f2 : Bool} {f3 : List ByteArray} {f4 : Int} {f5 : List ByteArray} (h : W.heap[g]? = some (.cells #[.string f0, .int .i64 f1, .bool f2, .slice A3 f3.length c3, .int .i64 f4, .slice A5 f5.length c5] 53 (0, 0))) : W.cell? ⟨g, 1, none⟩ = some (.int .i64 f1) := (blk_cell h 1).trans rfl
theorem IsS53.set_1 {w0 W : World} {g : Nat} {f0 : ByteArray} {f1 : Int} {f2 : Bool} {f3 : List ByteArray} {f4 : Int} {f5 : List ByteArray} (h : IsS53 w0 W g f0 f1 f2 f3 f4 f5) (x : Int) : IsS53 w0 (W.setCell ⟨g, 1, none⟩ (.int .i64 x)) g f0 x f2 f3 f4 f5 := by
  obtain ⟨A3, c3, A5, c5, hb, hg, hr3, hr5⟩ := h
  exact ⟨A3, c3, A5, c5, by simpa using blk_set hb 1 (.int .i64 x), hg, hr3, hr5⟩
theorem cellS53_2 {W : World} {g : Nat} {A3 : Option Addr} {c3 : Nat} {A5 : Option Addr} {c5 : Nat} {f0 : ByteArray} {f1 : Int} {f2 : Bool} {f3 : List ByteArray} {f4 : Int} {f5 : List ByteArray} (h : W.heap[g]? = some (.cells #[.string f0, .int .i64 f1, .bool f2, .slice A3 f3.length c3, .int .i64 f4, .slice A5 f5.length c5] 53 (0, 0))) : W.cell? ⟨g, 2, none⟩ = some (.bool f2) := (blk_cell h 2).trans rfl
theorem IsS53.set_2 {w0 W : World} {g : Nat} {f0 : ByteArray} {f1 : Int} {f2 : Bool} {f3 : List ByteArray} {f4 : Int} {f5 : List ByteArray} (h : IsS53 w0 W g f0 f1 f2 f3 f4 f5) (x : Bool) : IsS53 w0 (W.setCell ⟨g, 2, none⟩ (.bool x)) g f0 f1 x f3 f4 f5 := by
  obtain ⟨A3, c3, A5, c5, hb, hg, hr3, hr5⟩ := h
  exact ⟨A3, c3, A5, c5, by simpa using blk_set hb 2 (.bool x), hg, hr3, hr5⟩
theorem cellS53_3 {W : World} {g : Nat} {A3 : Option Addr} {c3 : Nat} {A5 : Option Addr} {c5 : Nat} {f0 : ByteArray} {f1 : Int} {f2 : Bool} {f3 : List ByteArray} {f4 : Int} {f5 : List ByteArray} (h : W.heap[g]? = some (.cells #[.string f0, .int .i64 f1, .bool f2, .slice A3 f3.length c3, .int .i64 f4, .slice A5 f5.length c5] 53 (0, 0))) : W.cell? ⟨g, 3, none⟩ = some (.slice A3 f3.length c3) := (blk_cell h 3).trans rfl
theorem cellS53_4 {W : World} {g : Nat} {A3 : Option Addr} {c3 : Nat} {A5 : Option Addr} {c5 : Nat} {f0 : ByteArray} {f1 : Int} {f2 : Bool} {f3 : List ByteArray} {f4 : Int} {f5 : List ByteArray} (h : W.heap[g]? = some (.cells #[.string f0, .int .i64 f1, .bool f2, .slice A3 f3.length c3, .int .i64 f4, .slice A5 f5.length c5] 53 (0, 0))) : W.cell? ⟨g, 4, none⟩ = some (.int .i64 f4) := (blk_cell h 4).trans rfl
theorem IsS53.set_4 {w0 W : World} {g : Nat} {f0 : ByteArray} {f1 : Int} {f2 : Bool} {f3 : List ByteArray} {f4 : Int} {f5 : List ByteArray} (h : IsS53 w0 W g f0 f1 f2 f3 f4 f5) (x : Int) : IsS53 w0 (W.setCell ⟨g, 4, none⟩ (.int .i64 x)) g f0 f1 f2 f3 x f5 := by
  obtain ⟨A3, c3, A5, c5, hb, hg, hr3, hr5⟩ := h
  exact ⟨A3, c3, A5, c5, by simpa using blk_set hb 4 (.int .i64 x), hg, hr3, hr5⟩
theorem cellS53_5 {W : World} {g : Nat} {A3 : Option Addr} {c3 : Nat} {A5 : Option Addr} {c5 : Nat} {f0 : ByteArray} {f1 : Int} {f2 : Bool} {f3 : List ByteArray} {f4 : Int} {f5 : List ByteArray} (h : W.heap[g]? = some (.cells #[.string f0, .int .i64 f1, .bool f2, .slice A3 f3.length c3, .int .i64 f4, .slice A5 f5.length c5] 53 (0, 0))) : W.cell? ⟨g, 5, none⟩ = some (.slice A5 f5.length c5) := (blk_cell h 5).trans rfl
theorem IsS53.new (w0 W : World) (A3 : Option Addr) (c3 : Nat) (A5 : Option Addr) (c5 : Nat) (f0 : ByteArray) (f1 : Int) (f2 : Bool) (f3 : List ByteArray) (f4 : Int) (f5 : List ByteArray) (hB : Below w0.heap.size w0 W) (hr3 : Kd.C Kd.string w0 A3 f3.length f3) (hr5 : Kd.C Kd.string w0 A5 f5.length f5) : IsS53 w0 (W.alloc (.cells #[.string f0, .int .i64 f1, .bool f2, .slice A3 f3.length c3, .int .i64 f4, .slice A5 f5.length c5] 53)) W.heap.size f0 f1 f2 f3 f4 f5 := ⟨A3, c3, A5, c5, by simpa using heap_alloc_new W _, hB.size, hr3, hr5⟩

end Go.Proofs.YtonajgipkpnpoaaDoor.PFnToUnifiedReads
