-- Written by a program of this session, after the kit's printer.
import Derived.Test.YtonajgipkpnpoaaQFnBackwardLongestx0
namespace Go.Proofs.Ytonajgipkpnpoaa.QFnBackwardLongest
open Go.RowKit Go.Proofs.YtonajgipkpnpoaaW.PrintWords Go.Proofs.YtonajgipkpnpoaaW.PrintLast Go.Proofs.YtonajgipkpnpoaaW.PrintMore
attribute [local go_sem] max2_int min2_int max_two min_two max_three min_three max_four min_four   -- for this text's walks alone
set_option linter.unusedVariables false
set_option linter.unusedSimpArgs false

/-! ### spec_Kept: function 16 -/
mutual
def spec_Kept.l0 : Nat → List Int → List Int → Int → Int → Int → List (S58) → Int → Int → Option (Int × Bool)
  | 0, _, _, _, _, _, _, _, _ => none
  | k + 1, x0, x1, x8, x9, x10, x26, x27, x28 => if x28 < x27 then (if 0 ≤ x28 then (if x28 < (x26.length : Int) then (if ((rd_T58 x26 x28).f0) < x9 then (spec_Kept.j1 k x0 x1 x8 x9 x10 x26 x27 x28 true ((rd_T58 x26 x28).f0) ((rd_T58 x26 x28).f1) ((rd_T58 x26 x28).f2) ((rd_T58 x26 x28).f3)) else (if ((rd_T58 x26 x28).f1) < ((rd_T58 x26 x28).f0) then (spec_Kept.j1 k x0 x1 x8 x9 x10 x26 x27 x28 true ((rd_T58 x26 x28).f0) ((rd_T58 x26 x28).f1) ((rd_T58 x26 x28).f2) ((rd_T58 x26 x28).f3)) else (if ((rd_T58 x26 x28).f1) > (x0.length : Int) then (spec_Kept.j1 k x0 x1 x8 x9 x10 x26 x27 x28 true ((rd_T58 x26 x28).f0) ((rd_T58 x26 x28).f1) ((rd_T58 x26 x28).f2) ((rd_T58 x26 x28).f3)) else (if ((rd_T58 x26 x28).f2) < x10 then (spec_Kept.j1 k x0 x1 x8 x9 x10 x26 x27 x28 true ((rd_T58 x26 x28).f0) ((rd_T58 x26 x28).f1) ((rd_T58 x26 x28).f2) ((rd_T58 x26 x28).f3)) else (if ((rd_T58 x26 x28).f3) < ((rd_T58 x26 x28).f2) then (spec_Kept.j1 k x0 x1 x8 x9 x10 x26 x27 x28 true ((rd_T58 x26 x28).f0) ((rd_T58 x26 x28).f1) ((rd_T58 x26 x28).f2) ((rd_T58 x26 x28).f3)) else (if ((rd_T58 x26 x28).f3) > (x1.length : Int) then (spec_Kept.j1 k x0 x1 x8 x9 x10 x26 x27 x28 true ((rd_T58 x26 x28).f0) ((rd_T58 x26 x28).f1) ((rd_T58 x26 x28).f2) ((rd_T58 x26 x28).f3)) else (spec_Kept.j1 k x0 x1 x8 x9 x10 x26 x27 x28 ((wrap64 (((rd_T58 x26 x28).f0) - x9)) != (wrap64 (((rd_T58 x26 x28).f2) - x10))) ((rd_T58 x26 x28).f0) ((rd_T58 x26 x28).f1) ((rd_T58 x26 x28).f2) ((rd_T58 x26 x28).f3)))))))) else (none)) else (none)) else (some (x8, true))
def spec_Kept.j1 : Nat → List Int → List Int → Int → Int → Int → List (S58) → Int → Int → Bool → Int → Int → Int → Int → Option (Int × Bool)
  | 0, _, _, _, _, _, _, _, _, _, _, _, _, _ => none
  | k + 1, x0, x1, x8, x9, x10, x26, x27, x28, x80, x152000, x152001, x152002, x152003 => if x80 = true then (some (0, false)) else (spec_Kept.l1 k x0 x1 x8 x9 x10 x26 x27 x28 x152000 x152001 x152002 x152003)
def spec_Kept.l1 : Nat → List Int → List Int → Int → Int → Int → List (S58) → Int → Int → Int → Int → Int → Int → Option (Int × Bool)
  | 0, _, _, _, _, _, _, _, _, _, _, _, _ => none
  | k + 1, x0, x1, x8, x9, x10, x26, x27, x28, x152000, x152001, x152002, x152003 => if x9 < x152000 then (if 0 ≤ x9 then (if x9 < (x0.length : Int) then (if 0 ≤ x10 then (if x10 < (x1.length : Int) then (if (rd x0 x9) = (rd x1 x10) then (spec_Kept.l1 k x0 x1 (wrap64 (x8 + 1)) (wrap64 (x9 + 1)) (wrap64 (x10 + 1)) x26 x27 x28 x152000 x152001 x152002 x152003) else (some (0, false))) else (none)) else (none)) else (none)) else (none)) else (spec_Kept.l0 k x0 x1 x8 x152001 x152003 x26 x27 (wrap64 (x28 + 1)))
end
def spec_Kept.f (k : Nat) (l0 : List Int) (l1 : List Int) (l2 : List (S58)) : Option (Int × Bool) := (some (([] : List (S58)) : List (S58))).bind fun y141 => (if y141.length + l2.length < 4398046511104 then ((some (y141 ++ l2 : List (S58))).bind fun y144 => (if y144.length < 4398046511104 then ((some (y144 ++ [(⟨(l0.length : Int), (l0.length : Int), (l1.length : Int), (l1.length : Int)⟩ : S58)] : List (S58))).bind fun y147 => (spec_Kept.l0 k l0 l1 0 0 0 y147 (y147.length : Int) 0)) else (none))) else (none))
theorem spec_Kept.mono_l : ∀ k, (∀ y0 y1 y2 y3 y4 y5 y6 y7, LeO (spec_Kept.l0 k y0 y1 y2 y3 y4 y5 y6 y7) (spec_Kept.l0 (k + 1) y0 y1 y2 y3 y4 y5 y6 y7)) ∧ (∀ y0 y1 y2 y3 y4 y5 y6 y7 y8 y9 y10 y11 y12, LeO (spec_Kept.j1 k y0 y1 y2 y3 y4 y5 y6 y7 y8 y9 y10 y11 y12) (spec_Kept.j1 (k + 1) y0 y1 y2 y3 y4 y5 y6 y7 y8 y9 y10 y11 y12)) ∧ (∀ y0 y1 y2 y3 y4 y5 y6 y7 y8 y9 y10 y11, LeO (spec_Kept.l1 k y0 y1 y2 y3 y4 y5 y6 y7 y8 y9 y10 y11) (spec_Kept.l1 (k + 1) y0 y1 y2 y3 y4 y5 y6 y7 y8 y9 y10 y11))
  | 0 => ⟨fun _ _ _ _ _ _ _ _ r h => by simp [spec_Kept.l0] at h, fun _ _ _ _ _ _ _ _ _ _ _ _ _ r h => by simp [spec_Kept.j1] at h, fun _ _ _ _ _ _ _ _ _ _ _ _ r h => by simp [spec_Kept.l1] at h⟩
  | k + 1 => by
    obtain ⟨ih0, ih1, ih2⟩ := spec_Kept.mono_l k
    refine ⟨?_, ?_, ?_⟩
    · intro y0 y1 y2 y3 y4 y5 y6 y7
      unfold spec_Kept.l0
      repeat' first
      | (with_reducible exact ih0 _ _ _ _ _ _ _ _)
      | (with_reducible exact ih1 _ _ _ _ _ _ _ _ _ _ _ _ _)
      | (with_reducible exact ih2 _ _ _ _ _ _ _ _ _ _ _ _)
      | (with_reducible exact LeO.refl _)
      | (with_reducible exact LeO.none _)
      | (with_reducible refine LeO.ite ?_ ?_)
      | (with_reducible refine LeO.bind ?_ (fun _ => ?_))
      | exact ih0 _ _ _ _ _ _ _ _
      | exact ih1 _ _ _ _ _ _ _ _ _ _ _ _ _
      | exact ih2 _ _ _ _ _ _ _ _ _ _ _ _
      | exact LeO.none _
      | refine LeO.ite ?_ ?_
      | refine LeO.bind ?_ (fun _ => ?_)
    · intro y0 y1 y2 y3 y4 y5 y6 y7 y8 y9 y10 y11 y12
      unfold spec_Kept.j1
      repeat' first
      | (with_reducible exact ih0 _ _ _ _ _ _ _ _)
      | (with_reducible exact ih1 _ _ _ _ _ _ _ _ _ _ _ _ _)
      | (with_reducible exact ih2 _ _ _ _ _ _ _ _ _ _ _ _)
      | (with_reducible exact LeO.refl _)
      | (with_reducible exact LeO.none _)
      | (with_reducible refine LeO.ite ?_ ?_)
      | (with_reducible refine LeO.bind ?_ (fun _ => ?_))
      | exact ih0 _ _ _ _ _ _ _ _
      | exact ih1 _ _ _ _ _ _ _ _ _ _ _ _ _
      | exact ih2 _ _ _ _ _ _ _ _ _ _ _ _
      | exact LeO.none _
      | refine LeO.ite ?_ ?_
      | refine LeO.bind ?_ (fun _ => ?_)
    · intro y0 y1 y2 y3 y4 y5 y6 y7 y8 y9 y10 y11
      unfold spec_Kept.l1
      repeat' first
      | (with_reducible exact ih0 _ _ _ _ _ _ _ _)
      | (with_reducible exact ih1 _ _ _ _ _ _ _ _ _ _ _ _ _)
      | (with_reducible exact ih2 _ _ _ _ _ _ _ _ _ _ _ _)
      | (with_reducible exact LeO.refl _)
      | (with_reducible exact LeO.none _)
      | (with_reducible refine LeO.ite ?_ ?_)
      | (with_reducible refine LeO.bind ?_ (fun _ => ?_))
      | exact ih0 _ _ _ _ _ _ _ _
      | exact ih1 _ _ _ _ _ _ _ _ _ _ _ _ _
      | exact ih2 _ _ _ _ _ _ _ _ _ _ _ _
      | exact LeO.none _
      | refine LeO.ite ?_ ?_
      | refine LeO.bind ?_ (fun _ => ?_)
theorem spec_Kept.mono : ∀ a0 a1 a2 k, LeO (spec_Kept.f k a0 a1 a2) (spec_Kept.f (k + 1) a0 a1 a2) := by
  intro a0 a1 a2 k
  obtain ⟨ih0, ih1, ih2⟩ := spec_Kept.mono_l k
  unfold spec_Kept.f
  repeat' first
      | (with_reducible exact ih0 _ _ _ _ _ _ _ _)
      | (with_reducible exact ih1 _ _ _ _ _ _ _ _ _ _ _ _ _)
      | (with_reducible exact ih2 _ _ _ _ _ _ _ _ _ _ _ _)
      | (with_reducible exact LeO.refl _)
      | (with_reducible exact LeO.none _)
      | (with_reducible refine LeO.ite ?_ ?_)
      | (with_reducible refine LeO.bind ?_ (fun _ => ?_))
      | exact ih0 _ _ _ _ _ _ _ _
      | exact ih1 _ _ _ _ _ _ _ _ _ _ _ _ _
      | exact ih2 _ _ _ _ _ _ _ _ _ _ _ _
      | exact LeO.none _
      | refine LeO.ite ?_ ?_
      | refine LeO.bind ?_ (fun _ => ?_)
set_option maxHeartbeats 8000000 in
set_option maxRecDepth 100000 in
theorem spec_Kept.calls (k : Nat) (A0 : Option Addr) (c0 : Nat) (l0 : List Int) (A1 : Option Addr) (c1 : Nat) (l1 : List Int) (A2 : Option Addr) (c2 : Nat) (l2 : List (S58)) (r1 : Int) (r2 : Bool) (w : World) (hr0 : Kd.C (Kd.int .i64) w A0 l0.length l0) (hc0 : l0.length ≤ c0) (hr1 : Kd.C (Kd.int .i64) w A1 l1.length l1) (hc1 : l1.length ≤ c1) (hr2 : Kd.C k58 w A2 l2.length l2) (hc2 : l2.length ≤ c2) (h : spec_Kept.f k l0 l1 l2 = some (r1, r2)) :
    Calls Try.prog 16 #[.slice A0 l0.length c0, .slice A1 l1.length c1, .slice A2 l2.length c2] w fun e w' => e = .returned (.tuple #[.int .i64 r1, .bool r2]) ∧ Below w.heap.size w w' := by
  have hu58 := Try.underlying58
  have HR0 := Aside0.mk hr0
  have HC0 := Aside0.mk hc0
  clear hr0 hc0
  have HR1 := Aside0.mk hr1
  have HC1 := Aside0.mk hc1
  clear hr1 hc1
  have HR2 := Aside0.mk hr2
  have HC2 := Aside0.mk hc2
  clear hr2 hc2
  have HB := Aside0.mk (Below.refl w.heap.size w)
  have H : ((some (([] : List (S58)) : List (S58))).bind fun y141 => (if y141.length + l2.length < 4398046511104 then ((some (y141 ++ l2 : List (S58))).bind fun y144 => (if y144.length < 4398046511104 then ((some (y144 ++ [(⟨(l0.length : Int), (l0.length : Int), (l1.length : Int), (l1.length : Int)⟩ : S58)] : List (S58))).bind fun y147 => (spec_Kept.l0 k l0 l1 0 0 0 y147 (y147.length : Int) 0)) else (none))) else (none))) = some (r1, r2) := h
  clear h
  obtain ⟨y141, hy141⟩ : ∃ y_ : List (S58), y_ = (([] : List (S58))) := ⟨_, rfl⟩
  replace H : (if y141.length + l2.length < 4398046511104 then ((some (y141 ++ l2 : List (S58))).bind fun y144 => (if y144.length < 4398046511104 then ((some (y144 ++ [(⟨(l0.length : Int), (l0.length : Int), (l1.length : Int), (l1.length : Int)⟩ : S58)] : List (S58))).bind fun y147 => (spec_Kept.l0 k l0 l1 0 0 0 y147 (y147.length : Int) 0)) else (none))) else (none)) = some (r1, r2) := by first | (rw [hy141]; with_reducible exact H) | (have H2_ := (Option.bind_some _ _).symm.trans H; rw [hy141]; with_reducible exact H2_) | (have H2_ := (Option.bind_some _ _).symm.trans H; with_reducible exact H2_) | with_reducible exact H | (rw [hy141]; exact H) | exact H
  have Ny141 := Aside0.mk hy141
  clear hy141
  by_cases c4 : y141.length + l2.length < 4398046511104
  · rw [if_pos c4] at H
    have LMc4 := Aside0.mk c4
    clear c4
    obtain ⟨y144, hy144⟩ : ∃ y_ : List (S58), y_ = (y141 ++ l2) := ⟨_, rfl⟩
    replace H : (if y144.length < 4398046511104 then ((some (y144 ++ [(⟨(l0.length : Int), (l0.length : Int), (l1.length : Int), (l1.length : Int)⟩ : S58)] : List (S58))).bind fun y147 => (spec_Kept.l0 k l0 l1 0 0 0 y147 (y147.length : Int) 0)) else (none)) = some (r1, r2) := by first | (rw [hy144]; with_reducible exact H) | (have H2_ := (Option.bind_some _ _).symm.trans H; rw [hy144]; with_reducible exact H2_) | (have H2_ := (Option.bind_some _ _).symm.trans H; with_reducible exact H2_) | with_reducible exact H | (rw [hy144]; exact H) | exact H
    have Ny144 := Aside0.mk hy144
    clear hy144
    by_cases c5 : y144.length < 4398046511104
    · rw [if_pos c5] at H
      have LMc5 := Aside0.mk c5
      clear c5
      obtain ⟨y147, hy147⟩ : ∃ y_ : List (S58), y_ = (y144 ++ [(⟨(l0.length : Int), (l0.length : Int), (l1.length : Int), (l1.length : Int)⟩ : S58)]) := ⟨_, rfl⟩
      replace H : (spec_Kept.l0 k l0 l1 0 0 0 y147 (y147.length : Int) 0) = some (r1, r2) := by first | (rw [hy147]; with_reducible exact H) | (have H2_ := (Option.bind_some _ _).symm.trans H; rw [hy147]; with_reducible exact H2_) | (have H2_ := (Option.bind_some _ _).symm.trans H; with_reducible exact H2_) | with_reducible exact H | (rw [hy147]; exact H) | exact H
      have Ny147 := Aside0.mk hy147
      clear hy147
      have H' := Aside0.mk H
      clear H
      go_enter Try.func16, Try.ntmps16
      go_wp2_with (first | ((with_reducible refine gate_dst (N := 13) rfl ?_); (try (refine gate_guard (by rfl) ?_; dsimp only)); refine Kd.R_lit k58 _ 58 ?hg (N := 13) ?hd (xs := ([] : List (S58))) (inner := []) (ok := fun _ => True) (okp := fun _ => True) ?hr ?hp (fun _ hk => hk) trivial (Below.refl _ _) (Nat.le_refl _) (by simp) ?_; (case hd => rfl); (case hg => rfl); (case hr => first | (go_simp; done) | (go_simp; rfl)); (case hp => exact (Reps.none _ _)); intro v142 w6 ho7 hb hg_ hnew_; clear hg_ hnew_; (first | rw [← Ny141.out] at ho7 | (simp only [Int.reduceToNat] at ho7; rw [← Ny141.out] at ho7)); have n0_ := Aside0.mk (Kd.R_lower ho7 (below_size (by repeat (first | (with_reducible first | exact HB.out | apply below_alloc | apply pw_below_drewN | apply below_drew1) | exact HB.out)))); have n1_ := Aside0.mk (below_step (by repeat (first | (with_reducible first | exact HB.out | apply below_alloc | apply pw_below_drewN | apply below_drew1) | exact HB.out)) hb); clear HB; have HO143 := n0_; have HB := n1_; clear n0_ n1_; clear hb ho7) | ((with_reducible refine gate_builtin (b := .append) (xs := #[.tmp 13, .tmp 14]) rfl ?_); (try (refine gate_guard (by rfl) ?_; dsimp only)); at_builtin; refine Kd.R_append_rows k58 (w0 := w) w.heap.size rfl (.tmp 13) (.tmp 14) 31 58 (.agg #[(.int .i64 0), (.int .i64 0), (.int .i64 0), (.int .i64 0)]) 32 rfl Try.underlying31 info58 rfl (by decide) (by omega) v142 y141 l2 _ _ _ (fun _ => True) (fun _ => False) rfl rfl ?aO ?aR (fun _ _ h => h) (fun _ h => h.elim) ?aF ?aB ?aS ?aL ?_; (case aR => repeat (first | exact (Kd.C_below HR2.out HB.out) | (with_reducible refine Kd.C_alloc ?_ _) | (with_reducible refine Kd.C_drewN ?_ _) | (with_reducible refine Kd.C_drew ?_))); (case aB => exact (by repeat (first | (with_reducible first | exact HB.out | apply below_alloc | apply pw_below_drewN | apply below_drew1) | exact HB.out))); (case aF => exact (fun _ _ => trivial)); (case aO => exact (by (with_reducible repeat (first | apply Kd.R_alloc | apply Kd.R_drewN | apply Kd.R_drew)); exact HO143.out)); (case aS => exact (below_size (by repeat (first | (with_reducible first | exact HB.out | apply below_alloc | apply pw_below_drewN | apply below_drew1) | exact HB.out)))); (case aL => have := LMc4.out; omega); intro v145 w8 ho hb hg hat; rw [← Ny144.out] at ho; have n0_ := Aside0.mk (hb); have n1_ := Aside0.mk (ho); clear HB; clear HO143; have HB := n0_; have HO146 := n1_; clear n0_ n1_; clear ho hb hg hat) | ((with_reducible refine gate_builtin (b := .append) (xs := #[.tmp 15, .tmp 25]) rfl ?_); (try (refine gate_guard (by rfl) ?_; dsimp only)); at_builtin; refine Kd.R_append k58 (w0 := w) w.heap.size rfl (.tmp 15) (.tmp 25) 31 58 (.agg #[(.int .i64 0), (.int .i64 0), (.int .i64 0), (.int .i64 0)]) 32 rfl Try.underlying31 info58 rfl (by decide) (by omega) v145 y144 (⟨(l0.length : Int), (l0.length : Int), (l1.length : Int), (l1.length : Int)⟩ : S58) [.int .i64 (l0.length : Int), .int .i64 (l0.length : Int), .int .i64 (l1.length : Int), .int .i64 (l1.length : Int)] (fun _ => True) (fun _ => False) rfl rfl ?aP (fun _ hk => hk.elim) ?aF ?aO ?aB ?aS ?aL ?_; (case aP => exact k58_mkM _ _ _ (⟨(l0.length : Int), (l0.length : Int), (l1.length : Int), (l1.length : Int)⟩ : S58)); (case aB => exact (by repeat (first | (with_reducible first | exact HB.out | apply below_alloc | apply pw_below_drewN | apply below_drew1) | exact HB.out))); (case aF => exact (fun _ _ => trivial)); (case aO => exact (by (with_reducible repeat (first | apply Kd.R_alloc | apply Kd.R_drewN | apply Kd.R_drew)); exact HO146.out)); (case aS => exact (below_size (by repeat (first | (with_reducible first | exact HB.out | apply below_alloc | apply pw_below_drewN | apply below_drew1) | exact HB.out)))); (case aL => have := LMc5.out; omega); intro v148 w9 ho hb hg hat; rw [← Ny147.out] at ho; have n0_ := Aside0.mk (hb); have n1_ := Aside0.mk (ho); clear HB; clear HO146; have HB := n0_; have HO149 := n1_; clear n0_ n1_; clear ho hb hg hat; obtain ⟨Ao10, co10, eo10⟩ := Kd.R_slice HO149.out; subst eo10))
      repeat (go_quiet (first | ((with_reducible refine gate_dst (N := 13) rfl ?_); (try (refine gate_guard (by rfl) ?_; dsimp only)); refine Kd.R_lit k58 _ 58 ?hg (N := 13) ?hd (xs := ([] : List (S58))) (inner := []) (ok := fun _ => True) (okp := fun _ => True) ?hr ?hp (fun _ hk => hk) trivial (Below.refl _ _) (Nat.le_refl _) (by simp) ?_; (case hd => rfl); (case hg => rfl); (case hr => first | (go_simp; done) | (go_simp; rfl)); (case hp => exact (Reps.none _ _)); intro v142 w6 ho7 hb hg_ hnew_; clear hg_ hnew_; (first | rw [← Ny141.out] at ho7 | (simp only [Int.reduceToNat] at ho7; rw [← Ny141.out] at ho7)); have n0_ := Aside0.mk (Kd.R_lower ho7 (below_size (by repeat (first | (with_reducible first | exact HB.out | apply below_alloc | apply pw_below_drewN | apply below_drew1) | exact HB.out)))); have n1_ := Aside0.mk (below_step (by repeat (first | (with_reducible first | exact HB.out | apply below_alloc | apply pw_below_drewN | apply below_drew1) | exact HB.out)) hb); clear HB; have HO143 := n0_; have HB := n1_; clear n0_ n1_; clear hb ho7) | ((with_reducible refine gate_builtin (b := .append) (xs := #[.tmp 13, .tmp 14]) rfl ?_); (try (refine gate_guard (by rfl) ?_; dsimp only)); at_builtin; refine Kd.R_append_rows k58 (w0 := w) w.heap.size rfl (.tmp 13) (.tmp 14) 31 58 (.agg #[(.int .i64 0), (.int .i64 0), (.int .i64 0), (.int .i64 0)]) 32 rfl Try.underlying31 info58 rfl (by decide) (by omega) v142 y141 l2 _ _ _ (fun _ => True) (fun _ => False) rfl rfl ?aO ?aR (fun _ _ h => h) (fun _ h => h.elim) ?aF ?aB ?aS ?aL ?_; (case aR => repeat (first | exact (Kd.C_below HR2.out HB.out) | (with_reducible refine Kd.C_alloc ?_ _) | (with_reducible refine Kd.C_drewN ?_ _) | (with_reducible refine Kd.C_drew ?_))); (case aB => exact (by repeat (first | (with_reducible first | exact HB.out | apply below_alloc | apply pw_below_drewN | apply below_drew1) | exact HB.out))); (case aF => exact (fun _ _ => trivial)); (case aO => exact (by (with_reducible repeat (first | apply Kd.R_alloc | apply Kd.R_drewN | apply Kd.R_drew)); exact HO143.out)); (case aS => exact (below_size (by repeat (first | (with_reducible first | exact HB.out | apply below_alloc | apply pw_below_drewN | apply below_drew1) | exact HB.out)))); (case aL => have := LMc4.out; omega); intro v145 w8 ho hb hg hat; rw [← Ny144.out] at ho; have n0_ := Aside0.mk (hb); have n1_ := Aside0.mk (ho); clear HB; clear HO143; have HB := n0_; have HO146 := n1_; clear n0_ n1_; clear ho hb hg hat) | ((with_reducible refine gate_builtin (b := .append) (xs := #[.tmp 15, .tmp 25]) rfl ?_); (try (refine gate_guard (by rfl) ?_; dsimp only)); at_builtin; refine Kd.R_append k58 (w0 := w) w.heap.size rfl (.tmp 15) (.tmp 25) 31 58 (.agg #[(.int .i64 0), (.int .i64 0), (.int .i64 0), (.int .i64 0)]) 32 rfl Try.underlying31 info58 rfl (by decide) (by omega) v145 y144 (⟨(l0.length : Int), (l0.length : Int), (l1.length : Int), (l1.length : Int)⟩ : S58) [.int .i64 (l0.length : Int), .int .i64 (l0.length : Int), .int .i64 (l1.length : Int), .int .i64 (l1.length : Int)] (fun _ => True) (fun _ => False) rfl rfl ?aP (fun _ hk => hk.elim) ?aF ?aO ?aB ?aS ?aL ?_; (case aP => exact k58_mkM _ _ _ (⟨(l0.length : Int), (l0.length : Int), (l1.length : Int), (l1.length : Int)⟩ : S58)); (case aB => exact (by repeat (first | (with_reducible first | exact HB.out | apply below_alloc | apply pw_below_drewN | apply below_drew1) | exact HB.out))); (case aF => exact (fun _ _ => trivial)); (case aO => exact (by (with_reducible repeat (first | apply Kd.R_alloc | apply Kd.R_drewN | apply Kd.R_drew)); exact HO146.out)); (case aS => exact (below_size (by repeat (first | (with_reducible first | exact HB.out | apply below_alloc | apply pw_below_drewN | apply below_drew1) | exact HB.out)))); (case aL => have := LMc5.out; omega); intro v148 w9 ho hb hg hat; rw [← Ny147.out] at ho; have n0_ := Aside0.mk (hb); have n1_ := Aside0.mk (ho); clear HB; clear HO146; have HB := n0_; have HO149 := n1_; clear n0_ n1_; clear ho hb hg hat; obtain ⟨Ao10, co10, eo10⟩ := Kd.R_slice HO149.out; subst eo10)); try go_wp2_with (first | ((with_reducible refine gate_dst (N := 13) rfl ?_); (try (refine gate_guard (by rfl) ?_; dsimp only)); refine Kd.R_lit k58 _ 58 ?hg (N := 13) ?hd (xs := ([] : List (S58))) (inner := []) (ok := fun _ => True) (okp := fun _ => True) ?hr ?hp (fun _ hk => hk) trivial (Below.refl _ _) (Nat.le_refl _) (by simp) ?_; (case hd => rfl); (case hg => rfl); (case hr => first | (go_simp; done) | (go_simp; rfl)); (case hp => exact (Reps.none _ _)); intro v142 w6 ho7 hb hg_ hnew_; clear hg_ hnew_; (first | rw [← Ny141.out] at ho7 | (simp only [Int.reduceToNat] at ho7; rw [← Ny141.out] at ho7)); have n0_ := Aside0.mk (Kd.R_lower ho7 (below_size (by repeat (first | (with_reducible first | exact HB.out | apply below_alloc | apply pw_below_drewN | apply below_drew1) | exact HB.out)))); have n1_ := Aside0.mk (below_step (by repeat (first | (with_reducible first | exact HB.out | apply below_alloc | apply pw_below_drewN | apply below_drew1) | exact HB.out)) hb); clear HB; have HO143 := n0_; have HB := n1_; clear n0_ n1_; clear hb ho7) | ((with_reducible refine gate_builtin (b := .append) (xs := #[.tmp 13, .tmp 14]) rfl ?_); (try (refine gate_guard (by rfl) ?_; dsimp only)); at_builtin; refine Kd.R_append_rows k58 (w0 := w) w.heap.size rfl (.tmp 13) (.tmp 14) 31 58 (.agg #[(.int .i64 0), (.int .i64 0), (.int .i64 0), (.int .i64 0)]) 32 rfl Try.underlying31 info58 rfl (by decide) (by omega) v142 y141 l2 _ _ _ (fun _ => True) (fun _ => False) rfl rfl ?aO ?aR (fun _ _ h => h) (fun _ h => h.elim) ?aF ?aB ?aS ?aL ?_; (case aR => repeat (first | exact (Kd.C_below HR2.out HB.out) | (with_reducible refine Kd.C_alloc ?_ _) | (with_reducible refine Kd.C_drewN ?_ _) | (with_reducible refine Kd.C_drew ?_))); (case aB => exact (by repeat (first | (with_reducible first | exact HB.out | apply below_alloc | apply pw_below_drewN | apply below_drew1) | exact HB.out))); (case aF => exact (fun _ _ => trivial)); (case aO => exact (by (with_reducible repeat (first | apply Kd.R_alloc | apply Kd.R_drewN | apply Kd.R_drew)); exact HO143.out)); (case aS => exact (below_size (by repeat (first | (with_reducible first | exact HB.out | apply below_alloc | apply pw_below_drewN | apply below_drew1) | exact HB.out)))); (case aL => have := LMc4.out; omega); intro v145 w8 ho hb hg hat; rw [← Ny144.out] at ho; have n0_ := Aside0.mk (hb); have n1_ := Aside0.mk (ho); clear HB; clear HO143; have HB := n0_; have HO146 := n1_; clear n0_ n1_; clear ho hb hg hat) | ((with_reducible refine gate_builtin (b := .append) (xs := #[.tmp 15, .tmp 25]) rfl ?_); (try (refine gate_guard (by rfl) ?_; dsimp only)); at_builtin; refine Kd.R_append k58 (w0 := w) w.heap.size rfl (.tmp 15) (.tmp 25) 31 58 (.agg #[(.int .i64 0), (.int .i64 0), (.int .i64 0), (.int .i64 0)]) 32 rfl Try.underlying31 info58 rfl (by decide) (by omega) v145 y144 (⟨(l0.length : Int), (l0.length : Int), (l1.length : Int), (l1.length : Int)⟩ : S58) [.int .i64 (l0.length : Int), .int .i64 (l0.length : Int), .int .i64 (l1.length : Int), .int .i64 (l1.length : Int)] (fun _ => True) (fun _ => False) rfl rfl ?aP (fun _ hk => hk.elim) ?aF ?aO ?aB ?aS ?aL ?_; (case aP => exact k58_mkM _ _ _ (⟨(l0.length : Int), (l0.length : Int), (l1.length : Int), (l1.length : Int)⟩ : S58)); (case aB => exact (by repeat (first | (with_reducible first | exact HB.out | apply below_alloc | apply pw_below_drewN | apply below_drew1) | exact HB.out))); (case aF => exact (fun _ _ => trivial)); (case aO => exact (by (with_reducible repeat (first | apply Kd.R_alloc | apply Kd.R_drewN | apply Kd.R_drew)); exact HO146.out)); (case aS => exact (below_size (by repeat (first | (with_reducible first | exact HB.out | apply below_alloc | apply pw_below_drewN | apply below_drew1) | exact HB.out)))); (case aL => have := LMc5.out; omega); intro v148 w9 ho hb hg hat; rw [← Ny147.out] at ho; have n0_ := Aside0.mk (hb); have n1_ := Aside0.mk (ho); clear HB; clear HO146; have HB := n0_; have HO149 := n1_; clear n0_ n1_; clear ho hb hg hat; obtain ⟨Ao10, co10, eo10⟩ := Kd.R_slice HO149.out; subst eo10)))
      go_loopg [8, 9, 10, 28] k (fun kq v8 v9 v10 v28 w' => ∃ (x8_1 : Int) (x9_1 : Int) (x10_1 : Int) (x28_1 : Int), v8 = .int .i64 x8_1 ∧ v9 = .int .i64 x9_1 ∧ v10 = .int .i64 x10_1 ∧ v28 = .int .i64 x28_1 ∧ Aside0 (spec_Kept.l0 kq l0 l1 x8_1 x9_1 x10_1 y147 (y147.length : Int) x28_1 = some (r1, r2)) ∧ Aside0 (kq ≤ k) ∧ Aside0 (Kd.R k58 58 w' w.heap.size (fun _ => True) (.slice Ao10 y147.length co10) y147) ∧ Aside0 (Below w.heap.size w w'))
      case atStart => exact ⟨(0), (0), (0), (0), (by first | rfl | (simp; done) | (simp [*]; done)), (by first | rfl | (simp; done) | (simp [*]; done)), (by first | rfl | (simp; done) | (simp [*]; done)), (by first | rfl | (simp; done) | (simp [*]; done)), H', ⟨Nat.le_refl _⟩, ⟨by (with_reducible repeat (first | apply Kd.R_alloc | apply Kd.R_drewN | apply Kd.R_drew)); exact HO149.out⟩, ⟨by repeat (first | (with_reducible first | exact HB.out | apply below_alloc | apply pw_below_drewN | apply below_drew1) | exact HB.out)⟩⟩
      case round =>
        clear H'
        try clear c1
        try clear c2
        try clear p2
        try clear c4
        try clear c5
        obtain ⟨x8_1, x9_1, x10_1, x28_1, rfl, rfl, rfl, rfl, HA, HK1, HO_26, HB⟩ := hrel
        cases gk with
        | zero => exact absurd HA.out (by simp [spec_Kept.l0])
        | succ k1 =>
          have H := HA.out
          clear HA
          simp only [spec_Kept.l0] at H
          by_cases c11 : x28_1 < (y147.length : Int)
          · rw [if_pos c11] at H
            have c11b0 : decide (x28_1 < (y147.length : Int)) = true := decide_eq_true c11
            clear c11
            by_cases c12 : 0 ≤ x28_1
            · rw [if_pos c12] at H
              have c12b0 : decide (0 ≤ x28_1) = true := decide_eq_true c12
              clear c12
              by_cases c13 : x28_1 < (y147.length : Int)
              · rw [if_pos c13] at H
                have c13b0 : decide (x28_1 < (y147.length : Int)) = true := decide_eq_true c13
                clear c13
                have HC14 := Aside0.mk H
                clear H
                have p150 : 0 ≤ (x28_1 : Int) := of_decide_eq_true (by first | (with_reducible assumption) | assumption)
                have q150 : x28_1 < (y147.length : Int) := of_decide_eq_true (by first | (with_reducible assumption) | assumption)
                obtain ⟨ad150, e150, hx150_0, hx150_1, hx150_2, hx150_3⟩ := at_T58 (Kd.R_reads' HO_26.out).2.2 x28_1 p150 q150
                cases e150
                replace p150 := eq_true p150
                replace q150 := eq_true q150
                go_upto_region 5 with (first | ((with_reducible refine gate_dst (N := 12) rfl ?_); (try (refine gate_guard (by rfl) ?_; dsimp only)); refine box_event ?hg (N := 12) ?hd (cs := #[.int .i64 0, .int .i64 0, .int .i64 0, .int .i64 0]) (t := 58) ?hr ?_; (case hd => rfl); (case hg => rfl); (case hr => first | (go_simp; done) | (go_simp; rfl)); intro gb151 hg w15 hbox hb; have n0_ := Aside0.mk (Kd.R_below (Kd.R_elderB (by (with_reducible repeat (first | apply Kd.R_alloc | apply Kd.R_drewN | apply Kd.R_drew)); exact HO_26.out) gb151 (Nat.le_of_eq hg.symm)) hb); have n1_ := Aside0.mk (below_step (by repeat (first | (with_reducible first | exact HB.out | apply below_alloc | apply pw_below_drewN | apply below_drew1) | exact HB.out)) hb); have n2_ := Aside0.mk (hbox); have n3_ := Aside0.mk ((by rw [hg]; exact (below_size (by repeat (first | (with_reducible first | exact HB.out | apply below_alloc | apply pw_below_drewN | apply below_drew1) | exact HB.out))) : w.heap.size ≤ gb151)); have n4_ := Aside0.mk ((by rw [hg]; exact (below_size (by repeat (first | (with_reducible first | exact HB.out | apply below_alloc | apply pw_below_drewN | apply below_drew1) | exact HB.out))) : w.heap.size ≤ gb151)); clear HO_26; clear HB; have HO_26 := n0_; have HB := n1_; have BK151 := n2_; have GW151 := n3_; have GE151 := n4_; clear n0_ n1_ n2_ n3_ n4_; clear hb hbox hg; have hcz16_0 : w15.cell? ⟨gb151, 0, none⟩ = some (.int .i64 0) := (blk_cell BK151.out 0).trans rfl; have hcz16_1 : w15.cell? ⟨gb151, 1, none⟩ = some (.int .i64 0) := (blk_cell BK151.out 1).trans rfl; have hcz16_2 : w15.cell? ⟨gb151, 2, none⟩ = some (.int .i64 0) := (blk_cell BK151.out 2).trans rfl; have hcz16_3 : w15.cell? ⟨gb151, 3, none⟩ = some (.int .i64 0) := (blk_cell BK151.out 3).trans rfl; have hfz16_0 := blk_frozen BK151.out 0; have hfz16_1 := blk_frozen BK151.out 1; have hfz16_2 := blk_frozen BK151.out 2; have hfz16_3 := blk_frozen BK151.out 3))
                repeat (go_quiet (first | ((with_reducible refine gate_dst (N := 12) rfl ?_); (try (refine gate_guard (by rfl) ?_; dsimp only)); refine box_event ?hg (N := 12) ?hd (cs := #[.int .i64 0, .int .i64 0, .int .i64 0, .int .i64 0]) (t := 58) ?hr ?_; (case hd => rfl); (case hg => rfl); (case hr => first | (go_simp; done) | (go_simp; rfl)); intro gb151 hg w15 hbox hb; have n0_ := Aside0.mk (Kd.R_below (Kd.R_elderB (by (with_reducible repeat (first | apply Kd.R_alloc | apply Kd.R_drewN | apply Kd.R_drew)); exact HO_26.out) gb151 (Nat.le_of_eq hg.symm)) hb); have n1_ := Aside0.mk (below_step (by repeat (first | (with_reducible first | exact HB.out | apply below_alloc | apply pw_below_drewN | apply below_drew1) | exact HB.out)) hb); have n2_ := Aside0.mk (hbox); have n3_ := Aside0.mk ((by rw [hg]; exact (below_size (by repeat (first | (with_reducible first | exact HB.out | apply below_alloc | apply pw_below_drewN | apply below_drew1) | exact HB.out))) : w.heap.size ≤ gb151)); have n4_ := Aside0.mk ((by rw [hg]; exact (below_size (by repeat (first | (with_reducible first | exact HB.out | apply below_alloc | apply pw_below_drewN | apply below_drew1) | exact HB.out))) : w.heap.size ≤ gb151)); clear HO_26; clear HB; have HO_26 := n0_; have HB := n1_; have BK151 := n2_; have GW151 := n3_; have GE151 := n4_; clear n0_ n1_ n2_ n3_ n4_; clear hb hbox hg; have hcz16_0 : w15.cell? ⟨gb151, 0, none⟩ = some (.int .i64 0) := (blk_cell BK151.out 0).trans rfl; have hcz16_1 : w15.cell? ⟨gb151, 1, none⟩ = some (.int .i64 0) := (blk_cell BK151.out 1).trans rfl; have hcz16_2 : w15.cell? ⟨gb151, 2, none⟩ = some (.int .i64 0) := (blk_cell BK151.out 2).trans rfl; have hcz16_3 : w15.cell? ⟨gb151, 3, none⟩ = some (.int .i64 0) := (blk_cell BK151.out 3).trans rfl; have hfz16_0 := blk_frozen BK151.out 0; have hfz16_1 := blk_frozen BK151.out 1; have hfz16_2 := blk_frozen BK151.out 2; have hfz16_3 := blk_frozen BK151.out 3)); go_upto_region 5 with (first | ((with_reducible refine gate_dst (N := 12) rfl ?_); (try (refine gate_guard (by rfl) ?_; dsimp only)); refine box_event ?hg (N := 12) ?hd (cs := #[.int .i64 0, .int .i64 0, .int .i64 0, .int .i64 0]) (t := 58) ?hr ?_; (case hd => rfl); (case hg => rfl); (case hr => first | (go_simp; done) | (go_simp; rfl)); intro gb151 hg w15 hbox hb; have n0_ := Aside0.mk (Kd.R_below (Kd.R_elderB (by (with_reducible repeat (first | apply Kd.R_alloc | apply Kd.R_drewN | apply Kd.R_drew)); exact HO_26.out) gb151 (Nat.le_of_eq hg.symm)) hb); have n1_ := Aside0.mk (below_step (by repeat (first | (with_reducible first | exact HB.out | apply below_alloc | apply pw_below_drewN | apply below_drew1) | exact HB.out)) hb); have n2_ := Aside0.mk (hbox); have n3_ := Aside0.mk ((by rw [hg]; exact (below_size (by repeat (first | (with_reducible first | exact HB.out | apply below_alloc | apply pw_below_drewN | apply below_drew1) | exact HB.out))) : w.heap.size ≤ gb151)); have n4_ := Aside0.mk ((by rw [hg]; exact (below_size (by repeat (first | (with_reducible first | exact HB.out | apply below_alloc | apply pw_below_drewN | apply below_drew1) | exact HB.out))) : w.heap.size ≤ gb151)); clear HO_26; clear HB; have HO_26 := n0_; have HB := n1_; have BK151 := n2_; have GW151 := n3_; have GE151 := n4_; clear n0_ n1_ n2_ n3_ n4_; clear hb hbox hg; have hcz16_0 : w15.cell? ⟨gb151, 0, none⟩ = some (.int .i64 0) := (blk_cell BK151.out 0).trans rfl; have hcz16_1 : w15.cell? ⟨gb151, 1, none⟩ = some (.int .i64 0) := (blk_cell BK151.out 1).trans rfl; have hcz16_2 : w15.cell? ⟨gb151, 2, none⟩ = some (.int .i64 0) := (blk_cell BK151.out 2).trans rfl; have hcz16_3 : w15.cell? ⟨gb151, 3, none⟩ = some (.int .i64 0) := (blk_cell BK151.out 3).trans rfl; have hfz16_0 := blk_frozen BK151.out 0; have hfz16_1 := blk_frozen BK151.out 1; have hfz16_2 := blk_frozen BK151.out 2; have hfz16_3 := blk_frozen BK151.out 3)))
                (try simp only [Act.put, List.setIfInBounds_toArray, List.set_cons_zero, List.set_cons_succ])
                go_cut [80] (fun v80 wc => ∃ (kq : Nat) (x80_13 : Bool), v80 = .bool x80_13 ∧ Aside0 (spec_Kept.j1 kq l0 l1 x8_1 x9_1 x10_1 y147 (y147.length : Int) x28_1 x80_13 ((rd_T58 y147 x28_1).f0) ((rd_T58 y147 x28_1).f1) ((rd_T58 y147 x28_1).f2) ((rd_T58 y147 x28_1).f3) = some (r1, r2)) ∧ Aside0 (kq ≤ k1) ∧ Aside0 (Kd.R k58 58 wc w.heap.size (fun k_ => k_ ≠ gb151) (.slice (some ad150) y147.length co10) y147) ∧ Aside0 (wc.heap[gb151]? = some (.cells #[.int .i64 ((rd_T58 y147 x28_1).f0), .int .i64 ((rd_T58 y147 x28_1).f1), .int .i64 ((rd_T58 y147 x28_1).f2), .int .i64 ((rd_T58 y147 x28_1).f3)] 58 (0, 0))) ∧ Aside0 (Below w.heap.size w wc))
                case first =>
                  have H := HC14.out
                  clear HC14
                  by_cases c17 : ((rd_T58 y147 x28_1).f0) < x9_1
                  · rw [if_pos c17] at H
                    have c17b0 : decide (((rd_T58 y147 x28_1).f0) < x9_1) = true := decide_eq_true c17
                    clear c17
                    (first | rw [c17b0] | (simp only [i64_w, i32_w]; rw [c17b0]) | skip)
                    have H' := Aside0.mk H
                    clear H
                    have hcz18_0 : w15.cell? ⟨gb151, 0, none⟩ = some (.int .i64 0) := (blk_cell BK151.out 0).trans rfl
                    have hcz18_1 : w15.cell? ⟨gb151, 1, none⟩ = some (.int .i64 0) := (blk_cell BK151.out 1).trans rfl
                    have hcz18_2 : w15.cell? ⟨gb151, 2, none⟩ = some (.int .i64 0) := (blk_cell BK151.out 2).trans rfl
                    have hcz18_3 : w15.cell? ⟨gb151, 3, none⟩ = some (.int .i64 0) := (blk_cell BK151.out 3).trans rfl
                    have hfz18_0 := blk_frozen BK151.out 0
                    have hfz18_1 := blk_frozen BK151.out 1
                    have hfz18_2 := blk_frozen BK151.out 2
                    have hfz18_3 := blk_frozen BK151.out 3
                    go_wp2
                    repeat (go_quiet (fail); try go_wp2)
                    go_meet
                    case rel => exact ⟨_, (true), (by first | rfl | (simp; done) | (simp [*]; done)), H', ⟨by have := HK1.out; first | omega | exact Nat.le_refl _⟩, ⟨by (with_reducible repeat (first | apply Kd.R_alloc | apply Kd.R_drewN | apply Kd.R_drew)); exact Kd.R_mono (Kd.R_far (p := ⟨gb151, 3, none⟩) (Kd.R_far (p := ⟨gb151, 2, none⟩) (Kd.R_far (p := ⟨gb151, 1, none⟩) (Kd.R_far (p := ⟨gb151, 0, none⟩) (Kd.R_mono HO_26.out (fun k_ hk => (⟨hk, hk.2⟩ : _ ∧ k_ ≠ gb151))) (fun _ hk => hk.2) (.int .i64 ((rd_T58 y147 x28_1).f0))) (fun _ hk => hk.2) (.int .i64 ((rd_T58 y147 x28_1).f1))) (fun _ hk => hk.2) (.int .i64 ((rd_T58 y147 x28_1).f2))) (fun _ hk => hk.2) (.int .i64 ((rd_T58 y147 x28_1).f3))) (fun _ hk => hk.1.2)⟩, ⟨by (with_reducible repeat (first | refine blk_drewN ?_ _ | refine blk_drew ?_ | refine blk_alloc ?_ _)); refine blk_put (cs := #[.int .i64 ((rd_T58 y147 x28_1).f0), .int .i64 ((rd_T58 y147 x28_1).f1), .int .i64 ((rd_T58 y147 x28_1).f2), .int .i64 0]) ?_ 3 _ rfl; (with_reducible repeat (first | refine blk_drewN ?_ _ | refine blk_drew ?_ | refine blk_alloc ?_ _)); refine blk_put (cs := #[.int .i64 ((rd_T58 y147 x28_1).f0), .int .i64 ((rd_T58 y147 x28_1).f1), .int .i64 0, .int .i64 0]) ?_ 2 _ rfl; (with_reducible repeat (first | refine blk_drewN ?_ _ | refine blk_drew ?_ | refine blk_alloc ?_ _)); refine blk_put (cs := #[.int .i64 ((rd_T58 y147 x28_1).f0), .int .i64 0, .int .i64 0, .int .i64 0]) ?_ 1 _ rfl; (with_reducible repeat (first | refine blk_drewN ?_ _ | refine blk_drew ?_ | refine blk_alloc ?_ _)); refine blk_put (cs := #[.int .i64 0, .int .i64 0, .int .i64 0, .int .i64 0]) ?_ 0 _ rfl; (with_reducible repeat (first | refine blk_drewN ?_ _ | refine blk_drew ?_ | refine blk_alloc ?_ _)); exact BK151.out⟩, ⟨by repeat (first | (with_reducible first | exact HB.out | apply below_alloc | apply pw_below_drewN | apply below_drew1 | refine below_set ?_ GE151.out) | exact HB.out)⟩⟩
                  · rw [if_neg c17] at H
                    have c17b0 : decide (((rd_T58 y147 x28_1).f0) < x9_1) = false := decide_eq_false c17
                    clear c17
                    (first | rw [c17b0] | (simp only [i64_w, i32_w]; rw [c17b0]) | skip)
                    by_cases c19 : ((rd_T58 y147 x28_1).f1) < ((rd_T58 y147 x28_1).f0)
                    · rw [if_pos c19] at H
                      have c19b0 : decide (((rd_T58 y147 x28_1).f1) < ((rd_T58 y147 x28_1).f0)) = true := decide_eq_true c19
                      clear c19
                      have H' := Aside0.mk H
                      clear H
                      have hcz20_0 : w15.cell? ⟨gb151, 0, none⟩ = some (.int .i64 0) := (blk_cell BK151.out 0).trans rfl
                      have hcz20_1 : w15.cell? ⟨gb151, 1, none⟩ = some (.int .i64 0) := (blk_cell BK151.out 1).trans rfl
                      have hcz20_2 : w15.cell? ⟨gb151, 2, none⟩ = some (.int .i64 0) := (blk_cell BK151.out 2).trans rfl
                      have hcz20_3 : w15.cell? ⟨gb151, 3, none⟩ = some (.int .i64 0) := (blk_cell BK151.out 3).trans rfl
                      have hfz20_0 := blk_frozen BK151.out 0
                      have hfz20_1 := blk_frozen BK151.out 1
                      have hfz20_2 := blk_frozen BK151.out 2
                      have hfz20_3 := blk_frozen BK151.out 3
                      go_wp2
                      repeat (go_quiet (fail); try go_wp2)
                      go_meet
                      case rel => exact ⟨_, (true), (by first | rfl | (simp; done) | (simp [*]; done)), H', ⟨by have := HK1.out; first | omega | exact Nat.le_refl _⟩, ⟨by (with_reducible repeat (first | apply Kd.R_alloc | apply Kd.R_drewN | apply Kd.R_drew)); exact Kd.R_mono (Kd.R_far (p := ⟨gb151, 3, none⟩) (Kd.R_far (p := ⟨gb151, 2, none⟩) (Kd.R_far (p := ⟨gb151, 1, none⟩) (Kd.R_far (p := ⟨gb151, 0, none⟩) (Kd.R_mono HO_26.out (fun k_ hk => (⟨hk, hk.2⟩ : _ ∧ k_ ≠ gb151))) (fun _ hk => hk.2) (.int .i64 ((rd_T58 y147 x28_1).f0))) (fun _ hk => hk.2) (.int .i64 ((rd_T58 y147 x28_1).f1))) (fun _ hk => hk.2) (.int .i64 ((rd_T58 y147 x28_1).f2))) (fun _ hk => hk.2) (.int .i64 ((rd_T58 y147 x28_1).f3))) (fun _ hk => hk.1.2)⟩, ⟨by (with_reducible repeat (first | refine blk_drewN ?_ _ | refine blk_drew ?_ | refine blk_alloc ?_ _)); refine blk_put (cs := #[.int .i64 ((rd_T58 y147 x28_1).f0), .int .i64 ((rd_T58 y147 x28_1).f1), .int .i64 ((rd_T58 y147 x28_1).f2), .int .i64 0]) ?_ 3 _ rfl; (with_reducible repeat (first | refine blk_drewN ?_ _ | refine blk_drew ?_ | refine blk_alloc ?_ _)); refine blk_put (cs := #[.int .i64 ((rd_T58 y147 x28_1).f0), .int .i64 ((rd_T58 y147 x28_1).f1), .int .i64 0, .int .i64 0]) ?_ 2 _ rfl; (with_reducible repeat (first | refine blk_drewN ?_ _ | refine blk_drew ?_ | refine blk_alloc ?_ _)); refine blk_put (cs := #[.int .i64 ((rd_T58 y147 x28_1).f0), .int .i64 0, .int .i64 0, .int .i64 0]) ?_ 1 _ rfl; (with_reducible repeat (first | refine blk_drewN ?_ _ | refine blk_drew ?_ | refine blk_alloc ?_ _)); refine blk_put (cs := #[.int .i64 0, .int .i64 0, .int .i64 0, .int .i64 0]) ?_ 0 _ rfl; (with_reducible repeat (first | refine blk_drewN ?_ _ | refine blk_drew ?_ | refine blk_alloc ?_ _)); exact BK151.out⟩, ⟨by repeat (first | (with_reducible first | exact HB.out | apply below_alloc | apply pw_below_drewN | apply below_drew1 | refine below_set ?_ GE151.out) | exact HB.out)⟩⟩
                    · rw [if_neg c19] at H
                      have c19b0 : decide (((rd_T58 y147 x28_1).f1) < ((rd_T58 y147 x28_1).f0)) = false := decide_eq_false c19
                      clear c19
                      by_cases c21 : ((rd_T58 y147 x28_1).f1) > (l0.length : Int)
                      · rw [if_pos c21] at H
                        have c21b0 : decide ((l0.length : Int) < ((rd_T58 y147 x28_1).f1)) = true := decide_eq_true c21
                        clear c21
                        have H' := Aside0.mk H
                        clear H
                        have hcz22_0 : w15.cell? ⟨gb151, 0, none⟩ = some (.int .i64 0) := (blk_cell BK151.out 0).trans rfl
                        have hcz22_1 : w15.cell? ⟨gb151, 1, none⟩ = some (.int .i64 0) := (blk_cell BK151.out 1).trans rfl
                        have hcz22_2 : w15.cell? ⟨gb151, 2, none⟩ = some (.int .i64 0) := (blk_cell BK151.out 2).trans rfl
                        have hcz22_3 : w15.cell? ⟨gb151, 3, none⟩ = some (.int .i64 0) := (blk_cell BK151.out 3).trans rfl
                        have hfz22_0 := blk_frozen BK151.out 0
                        have hfz22_1 := blk_frozen BK151.out 1
                        have hfz22_2 := blk_frozen BK151.out 2
                        have hfz22_3 := blk_frozen BK151.out 3
                        go_wp2
                        repeat (go_quiet (fail); try go_wp2)
                        go_meet
                        case rel => exact ⟨_, (true), (by first | rfl | (simp; done) | (simp [*]; done)), H', ⟨by have := HK1.out; first | omega | exact Nat.le_refl _⟩, ⟨by (with_reducible repeat (first | apply Kd.R_alloc | apply Kd.R_drewN | apply Kd.R_drew)); exact Kd.R_mono (Kd.R_far (p := ⟨gb151, 3, none⟩) (Kd.R_far (p := ⟨gb151, 2, none⟩) (Kd.R_far (p := ⟨gb151, 1, none⟩) (Kd.R_far (p := ⟨gb151, 0, none⟩) (Kd.R_mono HO_26.out (fun k_ hk => (⟨hk, hk.2⟩ : _ ∧ k_ ≠ gb151))) (fun _ hk => hk.2) (.int .i64 ((rd_T58 y147 x28_1).f0))) (fun _ hk => hk.2) (.int .i64 ((rd_T58 y147 x28_1).f1))) (fun _ hk => hk.2) (.int .i64 ((rd_T58 y147 x28_1).f2))) (fun _ hk => hk.2) (.int .i64 ((rd_T58 y147 x28_1).f3))) (fun _ hk => hk.1.2)⟩, ⟨by (with_reducible repeat (first | refine blk_drewN ?_ _ | refine blk_drew ?_ | refine blk_alloc ?_ _)); refine blk_put (cs := #[.int .i64 ((rd_T58 y147 x28_1).f0), .int .i64 ((rd_T58 y147 x28_1).f1), .int .i64 ((rd_T58 y147 x28_1).f2), .int .i64 0]) ?_ 3 _ rfl; (with_reducible repeat (first | refine blk_drewN ?_ _ | refine blk_drew ?_ | refine blk_alloc ?_ _)); refine blk_put (cs := #[.int .i64 ((rd_T58 y147 x28_1).f0), .int .i64 ((rd_T58 y147 x28_1).f1), .int .i64 0, .int .i64 0]) ?_ 2 _ rfl; (with_reducible repeat (first | refine blk_drewN ?_ _ | refine blk_drew ?_ | refine blk_alloc ?_ _)); refine blk_put (cs := #[.int .i64 ((rd_T58 y147 x28_1).f0), .int .i64 0, .int .i64 0, .int .i64 0]) ?_ 1 _ rfl; (with_reducible repeat (first | refine blk_drewN ?_ _ | refine blk_drew ?_ | refine blk_alloc ?_ _)); refine blk_put (cs := #[.int .i64 0, .int .i64 0, .int .i64 0, .int .i64 0]) ?_ 0 _ rfl; (with_reducible repeat (first | refine blk_drewN ?_ _ | refine blk_drew ?_ | refine blk_alloc ?_ _)); exact BK151.out⟩, ⟨by repeat (first | (with_reducible first | exact HB.out | apply below_alloc | apply pw_below_drewN | apply below_drew1 | refine below_set ?_ GE151.out) | exact HB.out)⟩⟩
                      · rw [if_neg c21] at H
                        have c21b0 : decide ((l0.length : Int) < ((rd_T58 y147 x28_1).f1)) = false := decide_eq_false c21
                        clear c21
                        by_cases c23 : ((rd_T58 y147 x28_1).f2) < x10_1
                        · rw [if_pos c23] at H
                          have c23b0 : decide (((rd_T58 y147 x28_1).f2) < x10_1) = true := decide_eq_true c23
                          clear c23
                          have H' := Aside0.mk H
                          clear H
                          have hcz24_0 : w15.cell? ⟨gb151, 0, none⟩ = some (.int .i64 0) := (blk_cell BK151.out 0).trans rfl
                          have hcz24_1 : w15.cell? ⟨gb151, 1, none⟩ = some (.int .i64 0) := (blk_cell BK151.out 1).trans rfl
                          have hcz24_2 : w15.cell? ⟨gb151, 2, none⟩ = some (.int .i64 0) := (blk_cell BK151.out 2).trans rfl
                          have hcz24_3 : w15.cell? ⟨gb151, 3, none⟩ = some (.int .i64 0) := (blk_cell BK151.out 3).trans rfl
                          have hfz24_0 := blk_frozen BK151.out 0
                          have hfz24_1 := blk_frozen BK151.out 1
                          have hfz24_2 := blk_frozen BK151.out 2
                          have hfz24_3 := blk_frozen BK151.out 3
                          go_wp2
                          repeat (go_quiet (fail); try go_wp2)
                          go_meet
                          case rel => exact ⟨_, (true), (by first | rfl | (simp; done) | (simp [*]; done)), H', ⟨by have := HK1.out; first | omega | exact Nat.le_refl _⟩, ⟨by (with_reducible repeat (first | apply Kd.R_alloc | apply Kd.R_drewN | apply Kd.R_drew)); exact Kd.R_mono (Kd.R_far (p := ⟨gb151, 3, none⟩) (Kd.R_far (p := ⟨gb151, 2, none⟩) (Kd.R_far (p := ⟨gb151, 1, none⟩) (Kd.R_far (p := ⟨gb151, 0, none⟩) (Kd.R_mono HO_26.out (fun k_ hk => (⟨hk, hk.2⟩ : _ ∧ k_ ≠ gb151))) (fun _ hk => hk.2) (.int .i64 ((rd_T58 y147 x28_1).f0))) (fun _ hk => hk.2) (.int .i64 ((rd_T58 y147 x28_1).f1))) (fun _ hk => hk.2) (.int .i64 ((rd_T58 y147 x28_1).f2))) (fun _ hk => hk.2) (.int .i64 ((rd_T58 y147 x28_1).f3))) (fun _ hk => hk.1.2)⟩, ⟨by (with_reducible repeat (first | refine blk_drewN ?_ _ | refine blk_drew ?_ | refine blk_alloc ?_ _)); refine blk_put (cs := #[.int .i64 ((rd_T58 y147 x28_1).f0), .int .i64 ((rd_T58 y147 x28_1).f1), .int .i64 ((rd_T58 y147 x28_1).f2), .int .i64 0]) ?_ 3 _ rfl; (with_reducible repeat (first | refine blk_drewN ?_ _ | refine blk_drew ?_ | refine blk_alloc ?_ _)); refine blk_put (cs := #[.int .i64 ((rd_T58 y147 x28_1).f0), .int .i64 ((rd_T58 y147 x28_1).f1), .int .i64 0, .int .i64 0]) ?_ 2 _ rfl; (with_reducible repeat (first | refine blk_drewN ?_ _ | refine blk_drew ?_ | refine blk_alloc ?_ _)); refine blk_put (cs := #[.int .i64 ((rd_T58 y147 x28_1).f0), .int .i64 0, .int .i64 0, .int .i64 0]) ?_ 1 _ rfl; (with_reducible repeat (first | refine blk_drewN ?_ _ | refine blk_drew ?_ | refine blk_alloc ?_ _)); refine blk_put (cs := #[.int .i64 0, .int .i64 0, .int .i64 0, .int .i64 0]) ?_ 0 _ rfl; (with_reducible repeat (first | refine blk_drewN ?_ _ | refine blk_drew ?_ | refine blk_alloc ?_ _)); exact BK151.out⟩, ⟨by repeat (first | (with_reducible first | exact HB.out | apply below_alloc | apply pw_below_drewN | apply below_drew1 | refine below_set ?_ GE151.out) | exact HB.out)⟩⟩
                        · rw [if_neg c23] at H
                          have c23b0 : decide (((rd_T58 y147 x28_1).f2) < x10_1) = false := decide_eq_false c23
                          clear c23
                          by_cases c25 : ((rd_T58 y147 x28_1).f3) < ((rd_T58 y147 x28_1).f2)
                          · rw [if_pos c25] at H
                            have c25b0 : decide (((rd_T58 y147 x28_1).f3) < ((rd_T58 y147 x28_1).f2)) = true := decide_eq_true c25
                            clear c25
                            have H' := Aside0.mk H
                            clear H
                            have hcz26_0 : w15.cell? ⟨gb151, 0, none⟩ = some (.int .i64 0) := (blk_cell BK151.out 0).trans rfl
                            have hcz26_1 : w15.cell? ⟨gb151, 1, none⟩ = some (.int .i64 0) := (blk_cell BK151.out 1).trans rfl
                            have hcz26_2 : w15.cell? ⟨gb151, 2, none⟩ = some (.int .i64 0) := (blk_cell BK151.out 2).trans rfl
                            have hcz26_3 : w15.cell? ⟨gb151, 3, none⟩ = some (.int .i64 0) := (blk_cell BK151.out 3).trans rfl
                            have hfz26_0 := blk_frozen BK151.out 0
                            have hfz26_1 := blk_frozen BK151.out 1
                            have hfz26_2 := blk_frozen BK151.out 2
                            have hfz26_3 := blk_frozen BK151.out 3
                            go_wp2
                            repeat (go_quiet (fail); try go_wp2)
                            go_meet
                            case rel => exact ⟨_, (true), (by first | rfl | (simp; done) | (simp [*]; done)), H', ⟨by have := HK1.out; first | omega | exact Nat.le_refl _⟩, ⟨by (with_reducible repeat (first | apply Kd.R_alloc | apply Kd.R_drewN | apply Kd.R_drew)); exact Kd.R_mono (Kd.R_far (p := ⟨gb151, 3, none⟩) (Kd.R_far (p := ⟨gb151, 2, none⟩) (Kd.R_far (p := ⟨gb151, 1, none⟩) (Kd.R_far (p := ⟨gb151, 0, none⟩) (Kd.R_mono HO_26.out (fun k_ hk => (⟨hk, hk.2⟩ : _ ∧ k_ ≠ gb151))) (fun _ hk => hk.2) (.int .i64 ((rd_T58 y147 x28_1).f0))) (fun _ hk => hk.2) (.int .i64 ((rd_T58 y147 x28_1).f1))) (fun _ hk => hk.2) (.int .i64 ((rd_T58 y147 x28_1).f2))) (fun _ hk => hk.2) (.int .i64 ((rd_T58 y147 x28_1).f3))) (fun _ hk => hk.1.2)⟩, ⟨by (with_reducible repeat (first | refine blk_drewN ?_ _ | refine blk_drew ?_ | refine blk_alloc ?_ _)); refine blk_put (cs := #[.int .i64 ((rd_T58 y147 x28_1).f0), .int .i64 ((rd_T58 y147 x28_1).f1), .int .i64 ((rd_T58 y147 x28_1).f2), .int .i64 0]) ?_ 3 _ rfl; (with_reducible repeat (first | refine blk_drewN ?_ _ | refine blk_drew ?_ | refine blk_alloc ?_ _)); refine blk_put (cs := #[.int .i64 ((rd_T58 y147 x28_1).f0), .int .i64 ((rd_T58 y147 x28_1).f1), .int .i64 0, .int .i64 0]) ?_ 2 _ rfl; (with_reducible repeat (first | refine blk_drewN ?_ _ | refine blk_drew ?_ | refine blk_alloc ?_ _)); refine blk_put (cs := #[.int .i64 ((rd_T58 y147 x28_1).f0), .int .i64 0, .int .i64 0, .int .i64 0]) ?_ 1 _ rfl; (with_reducible repeat (first | refine blk_drewN ?_ _ | refine blk_drew ?_ | refine blk_alloc ?_ _)); refine blk_put (cs := #[.int .i64 0, .int .i64 0, .int .i64 0, .int .i64 0]) ?_ 0 _ rfl; (with_reducible repeat (first | refine blk_drewN ?_ _ | refine blk_drew ?_ | refine blk_alloc ?_ _)); exact BK151.out⟩, ⟨by repeat (first | (with_reducible first | exact HB.out | apply below_alloc | apply pw_below_drewN | apply below_drew1 | refine below_set ?_ GE151.out) | exact HB.out)⟩⟩
                          · rw [if_neg c25] at H
                            have c25b0 : decide (((rd_T58 y147 x28_1).f3) < ((rd_T58 y147 x28_1).f2)) = false := decide_eq_false c25
                            clear c25
                            by_cases c27 : ((rd_T58 y147 x28_1).f3) > (l1.length : Int)
                            · rw [if_pos c27] at H
                              have c27b0 : decide ((l1.length : Int) < ((rd_T58 y147 x28_1).f3)) = true := decide_eq_true c27
                              clear c27
                              have H' := Aside0.mk H
                              clear H
                              have hcz28_0 : w15.cell? ⟨gb151, 0, none⟩ = some (.int .i64 0) := (blk_cell BK151.out 0).trans rfl
                              have hcz28_1 : w15.cell? ⟨gb151, 1, none⟩ = some (.int .i64 0) := (blk_cell BK151.out 1).trans rfl
                              have hcz28_2 : w15.cell? ⟨gb151, 2, none⟩ = some (.int .i64 0) := (blk_cell BK151.out 2).trans rfl
                              have hcz28_3 : w15.cell? ⟨gb151, 3, none⟩ = some (.int .i64 0) := (blk_cell BK151.out 3).trans rfl
                              have hfz28_0 := blk_frozen BK151.out 0
                              have hfz28_1 := blk_frozen BK151.out 1
                              have hfz28_2 := blk_frozen BK151.out 2
                              have hfz28_3 := blk_frozen BK151.out 3
                              go_wp2
                              repeat (go_quiet (fail); try go_wp2)
                              go_meet
                              case rel => exact ⟨_, (true), (by first | rfl | (simp; done) | (simp [*]; done)), H', ⟨by have := HK1.out; first | omega | exact Nat.le_refl _⟩, ⟨by (with_reducible repeat (first | apply Kd.R_alloc | apply Kd.R_drewN | apply Kd.R_drew)); exact Kd.R_mono (Kd.R_far (p := ⟨gb151, 3, none⟩) (Kd.R_far (p := ⟨gb151, 2, none⟩) (Kd.R_far (p := ⟨gb151, 1, none⟩) (Kd.R_far (p := ⟨gb151, 0, none⟩) (Kd.R_mono HO_26.out (fun k_ hk => (⟨hk, hk.2⟩ : _ ∧ k_ ≠ gb151))) (fun _ hk => hk.2) (.int .i64 ((rd_T58 y147 x28_1).f0))) (fun _ hk => hk.2) (.int .i64 ((rd_T58 y147 x28_1).f1))) (fun _ hk => hk.2) (.int .i64 ((rd_T58 y147 x28_1).f2))) (fun _ hk => hk.2) (.int .i64 ((rd_T58 y147 x28_1).f3))) (fun _ hk => hk.1.2)⟩, ⟨by (with_reducible repeat (first | refine blk_drewN ?_ _ | refine blk_drew ?_ | refine blk_alloc ?_ _)); refine blk_put (cs := #[.int .i64 ((rd_T58 y147 x28_1).f0), .int .i64 ((rd_T58 y147 x28_1).f1), .int .i64 ((rd_T58 y147 x28_1).f2), .int .i64 0]) ?_ 3 _ rfl; (with_reducible repeat (first | refine blk_drewN ?_ _ | refine blk_drew ?_ | refine blk_alloc ?_ _)); refine blk_put (cs := #[.int .i64 ((rd_T58 y147 x28_1).f0), .int .i64 ((rd_T58 y147 x28_1).f1), .int .i64 0, .int .i64 0]) ?_ 2 _ rfl; (with_reducible repeat (first | refine blk_drewN ?_ _ | refine blk_drew ?_ | refine blk_alloc ?_ _)); refine blk_put (cs := #[.int .i64 ((rd_T58 y147 x28_1).f0), .int .i64 0, .int .i64 0, .int .i64 0]) ?_ 1 _ rfl; (with_reducible repeat (first | refine blk_drewN ?_ _ | refine blk_drew ?_ | refine blk_alloc ?_ _)); refine blk_put (cs := #[.int .i64 0, .int .i64 0, .int .i64 0, .int .i64 0]) ?_ 0 _ rfl; (with_reducible repeat (first | refine blk_drewN ?_ _ | refine blk_drew ?_ | refine blk_alloc ?_ _)); exact BK151.out⟩, ⟨by repeat (first | (with_reducible first | exact HB.out | apply below_alloc | apply pw_below_drewN | apply below_drew1 | refine below_set ?_ GE151.out) | exact HB.out)⟩⟩
                            · rw [if_neg c27] at H
                              have c27b0 : decide ((l1.length : Int) < ((rd_T58 y147 x28_1).f3)) = false := decide_eq_false c27
                              clear c27
                              have H' := Aside0.mk H
                              clear H
                              have hcz29_0 : w15.cell? ⟨gb151, 0, none⟩ = some (.int .i64 0) := (blk_cell BK151.out 0).trans rfl
                              have hcz29_1 : w15.cell? ⟨gb151, 1, none⟩ = some (.int .i64 0) := (blk_cell BK151.out 1).trans rfl
                              have hcz29_2 : w15.cell? ⟨gb151, 2, none⟩ = some (.int .i64 0) := (blk_cell BK151.out 2).trans rfl
                              have hcz29_3 : w15.cell? ⟨gb151, 3, none⟩ = some (.int .i64 0) := (blk_cell BK151.out 3).trans rfl
                              have hfz29_0 := blk_frozen BK151.out 0
                              have hfz29_1 := blk_frozen BK151.out 1
                              have hfz29_2 := blk_frozen BK151.out 2
                              have hfz29_3 := blk_frozen BK151.out 3
                              go_wp2
                              repeat (go_quiet (fail); try go_wp2)
                              go_meet
                              case rel => exact ⟨_, (((wrap64 (((rd_T58 y147 x28_1).f0) - x9_1)) != (wrap64 (((rd_T58 y147 x28_1).f2) - x10_1)))), (by first | rfl | (simp; done) | (simp [*]; done)), H', ⟨by have := HK1.out; first | omega | exact Nat.le_refl _⟩, ⟨by (with_reducible repeat (first | apply Kd.R_alloc | apply Kd.R_drewN | apply Kd.R_drew)); exact Kd.R_mono (Kd.R_far (p := ⟨gb151, 3, none⟩) (Kd.R_far (p := ⟨gb151, 2, none⟩) (Kd.R_far (p := ⟨gb151, 1, none⟩) (Kd.R_far (p := ⟨gb151, 0, none⟩) (Kd.R_mono HO_26.out (fun k_ hk => (⟨hk, hk.2⟩ : _ ∧ k_ ≠ gb151))) (fun _ hk => hk.2) (.int .i64 ((rd_T58 y147 x28_1).f0))) (fun _ hk => hk.2) (.int .i64 ((rd_T58 y147 x28_1).f1))) (fun _ hk => hk.2) (.int .i64 ((rd_T58 y147 x28_1).f2))) (fun _ hk => hk.2) (.int .i64 ((rd_T58 y147 x28_1).f3))) (fun _ hk => hk.1.2)⟩, ⟨by (with_reducible repeat (first | refine blk_drewN ?_ _ | refine blk_drew ?_ | refine blk_alloc ?_ _)); refine blk_put (cs := #[.int .i64 ((rd_T58 y147 x28_1).f0), .int .i64 ((rd_T58 y147 x28_1).f1), .int .i64 ((rd_T58 y147 x28_1).f2), .int .i64 0]) ?_ 3 _ rfl; (with_reducible repeat (first | refine blk_drewN ?_ _ | refine blk_drew ?_ | refine blk_alloc ?_ _)); refine blk_put (cs := #[.int .i64 ((rd_T58 y147 x28_1).f0), .int .i64 ((rd_T58 y147 x28_1).f1), .int .i64 0, .int .i64 0]) ?_ 2 _ rfl; (with_reducible repeat (first | refine blk_drewN ?_ _ | refine blk_drew ?_ | refine blk_alloc ?_ _)); refine blk_put (cs := #[.int .i64 ((rd_T58 y147 x28_1).f0), .int .i64 0, .int .i64 0, .int .i64 0]) ?_ 1 _ rfl; (with_reducible repeat (first | refine blk_drewN ?_ _ | refine blk_drew ?_ | refine blk_alloc ?_ _)); refine blk_put (cs := #[.int .i64 0, .int .i64 0, .int .i64 0, .int .i64 0]) ?_ 0 _ rfl; (with_reducible repeat (first | refine blk_drewN ?_ _ | refine blk_drew ?_ | refine blk_alloc ?_ _)); exact BK151.out⟩, ⟨by repeat (first | (with_reducible first | exact HB.out | apply below_alloc | apply pw_below_drewN | apply below_drew1 | refine below_set ?_ GE151.out) | exact HB.out)⟩⟩
                case rest =>
                  clear HC14
                  try clear c1
                  try clear p1
                  try clear q1
                  try clear hx1
                  try clear c2
                  try clear p2
                  try clear c4
                  try clear c5
                  try clear p6
                  try clear c11
                  try clear c11b0
                  try clear c12
                  try clear c12b0
                  try clear c13
                  try clear c13b0
                  try clear p15
                  try clear q15
                  try clear hx15
                  try clear c16
                  try clear c17
                  try clear c17b0
                  try clear c19
                  try clear c19b0
                  try clear c21
                  try clear c21b0
                  try clear c23
                  try clear c23b0
                  try clear c25
                  try clear c25b0
                  try clear c27
                  try clear c27b0
                  try clear hcz16_0
                  try clear hcz16_1
                  try clear hcz16_2
                  try clear hcz16_3
                  try clear hcz18_0
                  try clear hcz18_1
                  try clear hcz18_2
                  try clear hcz18_3
                  try clear hcz20_0
                  try clear hcz20_1
                  try clear hcz20_2
                  try clear hcz20_3
                  try clear hcz22_0
                  try clear hcz22_1
                  try clear hcz22_2
                  try clear hcz22_3
                  try clear hcz24_0
                  try clear hcz24_1
                  try clear hcz24_2
                  try clear hcz24_3
                  try clear hcz26_0
                  try clear hcz26_1
                  try clear hcz26_2
                  try clear hcz26_3
                  try clear hcz28_0
                  try clear hcz28_1
                  try clear hcz28_2
                  try clear hcz28_3
                  try clear hcz29_0
                  try clear hcz29_1
                  try clear hcz29_2
                  try clear hcz29_3
                  try clear hfz16_0
                  try clear hfz16_1
                  try clear hfz16_2
                  try clear hfz16_3
                  try clear hfz18_0
                  try clear hfz18_1
                  try clear hfz18_2
                  try clear hfz18_3
                  try clear hfz20_0
                  try clear hfz20_1
                  try clear hfz20_2
                  try clear hfz20_3
                  try clear hfz22_0
                  try clear hfz22_1
                  try clear hfz22_2
                  try clear hfz22_3
                  try clear hfz24_0
                  try clear hfz24_1
                  try clear hfz24_2
                  try clear hfz24_3
                  try clear hfz26_0
                  try clear hfz26_1
                  try clear hfz26_2
                  try clear hfz26_3
                  try clear hfz28_0
                  try clear hfz28_1
                  try clear hfz28_2
                  try clear hfz28_3
                  try clear hfz29_0
                  try clear hfz29_1
                  try clear hfz29_2
                  try clear hfz29_3
                  try clear hx150_0
                  try clear hx150_1
                  try clear hx150_2
                  try clear hx150_3
                  try clear p150
                  try clear p2
                  try clear q150
                  obtain ⟨kq, x80_13, rfl, HA, HJ13, HO_26, BK151, HB⟩ := hcut
                  cases kq with
                  | zero => exact absurd HA.out (by simp [spec_Kept.j1])
                  | succ kj13 =>
                    have H := HA.out
                    clear HA
                    simp only [spec_Kept.j1] at H
                    by_cases c30 : x80_13 = true
                    · subst c30
                      have H1 : (some (0, false)) = some (r1, r2) := by rw [if_pos rfl] at H; exact H
                      clear H
                      have H := H1
                      clear H1
                      simp only [Option.some.injEq, Prod.mk.injEq] at H
                      obtain ⟨rfl, rfl⟩ := H
                      go_wp2
                      repeat (go_quiet (fail); try go_wp2)
                      go_ret2
                      exact ⟨by first | rfl | (simp [errW_none, errW_some] <;> rfl) | (simp [*, errW_none, errW_some] <;> rfl), by repeat (first | (with_reducible first | exact HB.out | apply below_alloc | apply pw_below_drewN | apply below_drew1 | refine below_set ?_ GE151.out) | exact HB.out)⟩
                    · replace c30 := Bool.eq_false_iff.mpr c30
                      subst c30
                      have H1 : (spec_Kept.l1 kj13 l0 l1 x8_1 x9_1 x10_1 y147 (y147.length : Int) x28_1 ((rd_T58 y147 x28_1).f0) ((rd_T58 y147 x28_1).f1) ((rd_T58 y147 x28_1).f2) ((rd_T58 y147 x28_1).f3)) = some (r1, r2) := by rw [if_neg (show ¬ (false = true) by decide)] at H; exact H
                      clear H
                      have H := H1
                      clear H1
                      have H' := Aside0.mk H
                      clear H
                      go_wp2
                      repeat (go_quiet (fail); try go_wp2)
                      go_loopg [8, 9, 10] kj13 (fun kq v8 v9 v10 w' => ∃ (x8_3 : Int) (x9_3 : Int) (x10_3 : Int), v8 = .int .i64 x8_3 ∧ v9 = .int .i64 x9_3 ∧ v10 = .int .i64 x10_3 ∧ Aside0 (spec_Kept.l1 kq l0 l1 x8_3 x9_3 x10_3 y147 (y147.length : Int) x28_1 ((rd_T58 y147 x28_1).f0) ((rd_T58 y147 x28_1).f1) ((rd_T58 y147 x28_1).f2) ((rd_T58 y147 x28_1).f3) = some (r1, r2)) ∧ Aside0 (kq ≤ kj13) ∧ Aside0 (Kd.R k58 58 w' w.heap.size (fun k_ => k_ ≠ gb151) (.slice (some ad150) y147.length co10) y147) ∧ Aside0 (w'.heap[gb151]? = some (.cells #[.int .i64 ((rd_T58 y147 x28_1).f0), .int .i64 ((rd_T58 y147 x28_1).f1), .int .i64 ((rd_T58 y147 x28_1).f2), .int .i64 ((rd_T58 y147 x28_1).f3)] 58 (0, 0))) ∧ Aside0 (Below w.heap.size w w'))
                      case atStart => exact ⟨(x8_1), (x9_1), (x10_1), (by first | rfl | (simp; done) | (simp [*]; done)), (by first | rfl | (simp; done) | (simp [*]; done)), (by first | rfl | (simp; done) | (simp [*]; done)), H', ⟨Nat.le_refl _⟩, ⟨by (with_reducible repeat (first | apply Kd.R_alloc | apply Kd.R_drewN | apply Kd.R_drew)); exact HO_26.out⟩, ⟨by (with_reducible repeat (first | refine blk_drewN ?_ _ | refine blk_drew ?_ | refine blk_alloc ?_ _)); exact BK151.out⟩, ⟨by repeat (first | (with_reducible first | exact HB.out | apply below_alloc | apply pw_below_drewN | apply below_drew1 | refine below_set ?_ GE151.out) | exact HB.out)⟩⟩
                      case round =>
                        clear H'
                        try clear c1
                        try clear p1
                        try clear q1
                        try clear hx1
                        try clear c2
                        try clear p2
                        try clear c3
                        try clear c4
                        try clear c5
                        try clear p6
                        try clear c11
                        try clear c11b0
                        try clear c12
                        try clear c12b0
                        try clear c13
                        try clear c13b0
                        try clear p15
                        try clear q15
                        try clear hx15
                        try clear c16
                        try clear c17
                        try clear c17b0
                        try clear c19
                        try clear c19b0
                        try clear c21
                        try clear c21b0
                        try clear c23
                        try clear c23b0
                        try clear c25
                        try clear c25b0
                        try clear c27
                        try clear c27b0
                        try clear c30
                        try clear hcz16_0
                        try clear hcz16_1
                        try clear hcz16_2
                        try clear hcz16_3
                        try clear hcz18_0
                        try clear hcz18_1
                        try clear hcz18_2
                        try clear hcz18_3
                        try clear hcz20_0
                        try clear hcz20_1
                        try clear hcz20_2
                        try clear hcz20_3
                        try clear hcz22_0
                        try clear hcz22_1
                        try clear hcz22_2
                        try clear hcz22_3
                        try clear hcz24_0
                        try clear hcz24_1
                        try clear hcz24_2
                        try clear hcz24_3
                        try clear hcz26_0
                        try clear hcz26_1
                        try clear hcz26_2
                        try clear hcz26_3
                        try clear hcz28_0
                        try clear hcz28_1
                        try clear hcz28_2
                        try clear hcz28_3
                        try clear hcz29_0
                        try clear hcz29_1
                        try clear hcz29_2
                        try clear hcz29_3
                        try clear hfz16_0
                        try clear hfz16_1
                        try clear hfz16_2
                        try clear hfz16_3
                        try clear hfz18_0
                        try clear hfz18_1
                        try clear hfz18_2
                        try clear hfz18_3
                        try clear hfz20_0
                        try clear hfz20_1
                        try clear hfz20_2
                        try clear hfz20_3
                        try clear hfz22_0
                        try clear hfz22_1
                        try clear hfz22_2
                        try clear hfz22_3
                        try clear hfz24_0
                        try clear hfz24_1
                        try clear hfz24_2
                        try clear hfz24_3
                        try clear hfz26_0
                        try clear hfz26_1
                        try clear hfz26_2
                        try clear hfz26_3
                        try clear hfz28_0
                        try clear hfz28_1
                        try clear hfz28_2
                        try clear hfz28_3
                        try clear hfz29_0
                        try clear hfz29_1
                        try clear hfz29_2
                        try clear hfz29_3
                        try clear hx150_0
                        try clear hx150_1
                        try clear hx150_2
                        try clear hx150_3
                        try clear p1
                        try clear p15
                        try clear p150
                        try clear p2
                        try clear p6
                        try clear q1
                        try clear q15
                        try clear q150
                        obtain ⟨x8_3, x9_3, x10_3, rfl, rfl, rfl, HA, HK3, HO_26, BK151, HB⟩ := hrel
                        cases gk with
                        | zero => exact absurd HA.out (by simp [spec_Kept.l1])
                        | succ k3 =>
                          have H := HA.out
                          clear HA
                          simp only [spec_Kept.l1] at H
                          by_cases c31 : x9_3 < ((rd_T58 y147 x28_1).f0)
                          · rw [if_pos c31] at H
                            have c31b0 : decide (x9_3 < ((rd_T58 y147 x28_1).f0)) = true := decide_eq_true c31
                            clear c31
                            by_cases c32 : 0 ≤ x9_3
                            · rw [if_pos c32] at H
                              have c32b0 : decide (0 ≤ x9_3) = true := decide_eq_true c32
                              clear c32
                              by_cases c33 : x9_3 < (l0.length : Int)
                              · rw [if_pos c33] at H
                                have c33b0 : decide (x9_3 < (l0.length : Int)) = true := decide_eq_true c33
                                clear c33
                                by_cases c34 : 0 ≤ x10_3
                                · rw [if_pos c34] at H
                                  have c34b0 : decide (0 ≤ x10_3) = true := decide_eq_true c34
                                  clear c34
                                  by_cases c35 : x10_3 < (l1.length : Int)
                                  · rw [if_pos c35] at H
                                    have c35b0 : decide (x10_3 < (l1.length : Int)) = true := decide_eq_true c35
                                    clear c35
                                    by_cases c36 : (rd l0 x9_3) = (rd l1 x10_3)
                                    · rw [if_pos c36] at H
                                      have c36b0 : ((rd l0 x9_3) == (rd l1 x10_3)) = true := beq_iff_eq.mpr c36
                                      have c36b1 : ((rd l0 x9_3) != (rd l1 x10_3)) = false := bne_eq_false_iff_eq.mpr c36
                                      clear c36
                                      have H' := Aside0.mk H
                                      clear H
                                      have hcz37_0 : wr.cell? ⟨gb151, 0, none⟩ = some (.int .i64 ((rd_T58 y147 x28_1).f0)) := (blk_cell BK151.out 0).trans rfl
                                      have hcz37_1 : wr.cell? ⟨gb151, 1, none⟩ = some (.int .i64 ((rd_T58 y147 x28_1).f1)) := (blk_cell BK151.out 1).trans rfl
                                      have hcz37_2 : wr.cell? ⟨gb151, 2, none⟩ = some (.int .i64 ((rd_T58 y147 x28_1).f2)) := (blk_cell BK151.out 2).trans rfl
                                      have hcz37_3 : wr.cell? ⟨gb151, 3, none⟩ = some (.int .i64 ((rd_T58 y147 x28_1).f3)) := (blk_cell BK151.out 3).trans rfl
                                      have hfz37_0 := blk_frozen BK151.out 0
                                      have hfz37_1 := blk_frozen BK151.out 1
                                      have hfz37_2 := blk_frozen BK151.out 2
                                      have hfz37_3 := blk_frozen BK151.out 3
                                      have p152 : 0 ≤ (x9_3 : Int) := of_decide_eq_true (by first | (with_reducible assumption) | assumption)
                                      have q152 : x9_3 < (l0.length : Int) := of_decide_eq_true (by first | (with_reducible assumption) | assumption)
                                      obtain ⟨ad152, e152, hx152_0⟩ := Kd.at_int HR0.out x9_3 p152 q152
                                      cases e152
                                      replace hx152_0 := (HB.out.cell (World.block_lt_of_cell? w _ hx152_0)).trans hx152_0
                                      replace p152 := eq_true p152
                                      replace q152 := eq_true q152
                                      have p153 : 0 ≤ (x10_3 : Int) := of_decide_eq_true (by first | (with_reducible assumption) | assumption)
                                      have q153 : x10_3 < (l1.length : Int) := of_decide_eq_true (by first | (with_reducible assumption) | assumption)
                                      obtain ⟨ad153, e153, hx153_0⟩ := Kd.at_int HR1.out x10_3 p153 q153
                                      cases e153
                                      replace hx153_0 := (HB.out.cell (World.block_lt_of_cell? w _ hx153_0)).trans hx153_0
                                      replace p153 := eq_true p153
                                      replace q153 := eq_true q153
                                      go_wp2
                                      repeat (go_quiet (fail); try go_wp2)
                                      go_roundg k3
                                      case measure => have := HK1.out; have := HJ13.out; have := HK3.out; omega
                                      case rel => exact ⟨(wrap64 (x8_3 + 1)), (wrap64 (x9_3 + 1)), (wrap64 (x10_3 + 1)), (by first | rfl | (simp; done) | (simp [*]; done)), (by first | rfl | (simp; done) | (simp [*]; done)), (by first | rfl | (simp; done) | (simp [*]; done)), H', ⟨by have := HK1.out; have := HJ13.out; have := HK3.out; omega⟩, ⟨by (with_reducible repeat (first | apply Kd.R_alloc | apply Kd.R_drewN | apply Kd.R_drew)); exact HO_26.out⟩, ⟨by (with_reducible repeat (first | refine blk_drewN ?_ _ | refine blk_drew ?_ | refine blk_alloc ?_ _)); exact BK151.out⟩, ⟨by repeat (first | (with_reducible first | exact HB.out | apply below_alloc | apply pw_below_drewN | apply below_drew1 | refine below_set ?_ GE151.out) | exact HB.out)⟩⟩
                                    · rw [if_neg c36] at H
                                      have c36b0 : ((rd l0 x9_3) == (rd l1 x10_3)) = false := beq_eq_false_iff_ne.mpr c36
                                      have c36b1 : ((rd l0 x9_3) != (rd l1 x10_3)) = true := bne_iff_ne.mpr c36
                                      simp only [Option.some.injEq, Prod.mk.injEq] at H
                                      obtain ⟨rfl, rfl⟩ := H
                                      have hcz38_0 : wr.cell? ⟨gb151, 0, none⟩ = some (.int .i64 ((rd_T58 y147 x28_1).f0)) := (blk_cell BK151.out 0).trans rfl
                                      have hcz38_1 : wr.cell? ⟨gb151, 1, none⟩ = some (.int .i64 ((rd_T58 y147 x28_1).f1)) := (blk_cell BK151.out 1).trans rfl
                                      have hcz38_2 : wr.cell? ⟨gb151, 2, none⟩ = some (.int .i64 ((rd_T58 y147 x28_1).f2)) := (blk_cell BK151.out 2).trans rfl
                                      have hcz38_3 : wr.cell? ⟨gb151, 3, none⟩ = some (.int .i64 ((rd_T58 y147 x28_1).f3)) := (blk_cell BK151.out 3).trans rfl
                                      have hfz38_0 := blk_frozen BK151.out 0
                                      have hfz38_1 := blk_frozen BK151.out 1
                                      have hfz38_2 := blk_frozen BK151.out 2
                                      have hfz38_3 := blk_frozen BK151.out 3
                                      have p152 : 0 ≤ (x9_3 : Int) := of_decide_eq_true (by first | (with_reducible assumption) | assumption)
                                      have q152 : x9_3 < (l0.length : Int) := of_decide_eq_true (by first | (with_reducible assumption) | assumption)
                                      obtain ⟨ad152, e152, hx152_0⟩ := Kd.at_int HR0.out x9_3 p152 q152
                                      cases e152
                                      replace hx152_0 := (HB.out.cell (World.block_lt_of_cell? w _ hx152_0)).trans hx152_0
                                      replace p152 := eq_true p152
                                      replace q152 := eq_true q152
                                      have p153 : 0 ≤ (x10_3 : Int) := of_decide_eq_true (by first | (with_reducible assumption) | assumption)
                                      have q153 : x10_3 < (l1.length : Int) := of_decide_eq_true (by first | (with_reducible assumption) | assumption)
                                      obtain ⟨ad153, e153, hx153_0⟩ := Kd.at_int HR1.out x10_3 p153 q153
                                      cases e153
                                      replace hx153_0 := (HB.out.cell (World.block_lt_of_cell? w _ hx153_0)).trans hx153_0
                                      replace p153 := eq_true p153
                                      replace q153 := eq_true q153
                                      go_wp2
                                      repeat (go_quiet (fail); try go_wp2)
                                      go_ret2
                                      exact ⟨by first | rfl | (simp [errW_none, errW_some] <;> rfl) | (simp [*, errW_none, errW_some] <;> rfl), by repeat (first | (with_reducible first | exact HB.out | apply below_alloc | apply pw_below_drewN | apply below_drew1 | refine below_set ?_ GE151.out) | exact HB.out)⟩
                                  · rw [if_neg c35] at H
                                    exact absurd H (by simp)
                                · rw [if_neg c34] at H
                                  exact absurd H (by simp)
                              · rw [if_neg c33] at H
                                exact absurd H (by simp)
                            · rw [if_neg c32] at H
                              exact absurd H (by simp)
                          · rw [if_neg c31] at H
                            have c31b0 : decide (x9_3 < ((rd_T58 y147 x28_1).f0)) = false := decide_eq_false c31
                            clear c31
                            have H' := Aside0.mk H
                            clear H
                            have hcz39_0 : wr.cell? ⟨gb151, 0, none⟩ = some (.int .i64 ((rd_T58 y147 x28_1).f0)) := (blk_cell BK151.out 0).trans rfl
                            have hcz39_1 : wr.cell? ⟨gb151, 1, none⟩ = some (.int .i64 ((rd_T58 y147 x28_1).f1)) := (blk_cell BK151.out 1).trans rfl
                            have hcz39_2 : wr.cell? ⟨gb151, 2, none⟩ = some (.int .i64 ((rd_T58 y147 x28_1).f2)) := (blk_cell BK151.out 2).trans rfl
                            have hcz39_3 : wr.cell? ⟨gb151, 3, none⟩ = some (.int .i64 ((rd_T58 y147 x28_1).f3)) := (blk_cell BK151.out 3).trans rfl
                            have hfz39_0 := blk_frozen BK151.out 0
                            have hfz39_1 := blk_frozen BK151.out 1
                            have hfz39_2 := blk_frozen BK151.out 2
                            have hfz39_3 := blk_frozen BK151.out 3
                            go_wp2
                            repeat (go_quiet (fail); try go_wp2)
                            go_roundg k3
                            case measure => have := HK1.out; have := HJ13.out; have := HK3.out; omega
                            case rel => exact ⟨(x8_3), (((rd_T58 y147 x28_1).f1)), (((rd_T58 y147 x28_1).f3)), (wrap64 (x28_1 + 1)), (by first | rfl | (simp; done) | (simp [*]; done)), (by first | rfl | (simp; done) | (simp [*]; done)), (by first | rfl | (simp; done) | (simp [*]; done)), (by first | rfl | (simp; done) | (simp [*]; done)), H', ⟨by have := HK1.out; have := HJ13.out; have := HK3.out; omega⟩, ⟨by (with_reducible repeat (first | apply Kd.R_alloc | apply Kd.R_drewN | apply Kd.R_drew)); exact Kd.R_mono HO_26.out (fun _ hk => trivial)⟩, ⟨by repeat (first | (with_reducible first | exact HB.out | apply below_alloc | apply pw_below_drewN | apply below_drew1 | refine below_set ?_ GE151.out) | exact HB.out)⟩⟩
              · rw [if_neg c13] at H
                exact absurd H (by simp)
            · rw [if_neg c12] at H
              exact absurd H (by simp)
          · rw [if_neg c11] at H
            have c11b0 : decide (x28_1 < (y147.length : Int)) = false := decide_eq_false c11
            clear c11
            simp only [Option.some.injEq, Prod.mk.injEq] at H
            obtain ⟨rfl, rfl⟩ := H
            go_wp2
            repeat (go_quiet (fail); try go_wp2)
            go_ret2
            exact ⟨by first | rfl | (simp [errW_none, errW_some] <;> rfl) | (simp [*, errW_none, errW_some] <;> rfl), by repeat (first | (with_reducible first | exact HB.out | apply below_alloc | apply pw_below_drewN | apply below_drew1) | exact HB.out)⟩
    · rw [if_neg c5] at H
      exact absurd H (by simp)
  · rw [if_neg c4] at H
    exact absurd H (by simp)

end Go.Proofs.Ytonajgipkpnpoaa.QFnBackwardLongest
