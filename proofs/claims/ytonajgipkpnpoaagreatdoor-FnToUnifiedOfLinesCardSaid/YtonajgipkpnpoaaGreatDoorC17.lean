/- The way back of the road from the start: forwardlcs. Printed by wip/gen/genfk.py. The state of the roads from both ends, level by level. Where both roads meet: twoDone. -/
import Derived.Test.YtonajgipkpnpoaaGreatDoorC16
import Derived.Test.YtonajgipkpnpoaaGreatDoorC00
namespace Go.Proofs.YtonajgipkpnpoaaGreatDoor.Gr
open Go.RowKit Go.Proofs.YtonajgipkpnpoaaGreatDoorW.PrintWords Go.Myers
structure FkAns (E : Nat → Nat → Bool) (W w' : World) (x0 y0 : Int) (v : Value) (l : List Dg) : Prop where
  row : DgRow w' W.heap.size v l
  bel : Below W.heap.size W w'
  ch : Chain E x0.toNat y0.toNat l 0 0
section
variable {W : World} {B ge : Nat} {sq : Value} {lim ux uy dl : Int} {F : Nat → Prop} {nf : Nat} {Lf : Nat → Nat → Int} {nb : Nat} {Lb : Nat → Nat → Int} {X Y : Nat}
set_option maxRecDepth 100000 in
set_option maxHeartbeats 4000000 in
theorem fwd_lcs (h : EG W B ge sq lim ux uy dl F nf Lf nb Lb) {E : Nat → Nat → Bool} (hX : X < 1099511627776) (hY : Y < 1099511627776) (D0 : Nat) (k0 : Int) (hL : ∀ d k, d < D0 → valid d k → Lf d (ix d k) = flab E X Y d k) (hL0 : Lf D0 (ix D0 k0) = flab E X Y D0 k0)
    (hv : valid D0 k0) (hD : D0 < nf) (hn : D0 < 1099511627776) (h0 : flab E X Y D0 k0 ≤ X) (h1 : flab E X Y D0 k0 - k0 ≤ Y) :
    Calls Tryz.prog 84 #[.pointer (some ⟨ge, 0, none⟩), .int .i64 D0, .int .i64 k0] W fun e w' => ∃ v l, e = .returned v ∧ FkAns E W w' (flab E X Y D0 k0) (flab E X Y D0 k0 - k0) v l := by
  have hg0 := get_fwd h D0 k0 hv hD hn
  rw [hL0] at hg0
  have hst := FkP.start (E := E) hv h0 h1
  have HST := Aside0.mk hst
  have H := Aside0.mk h
  have hgL : ∀ wr, Below W.heap.size W wr → ∀ d : Nat, ∀ k, d < D0 → d < 1099511627776 → valid d k → Calls Tryz.prog 80 #[.pointer (some ⟨ge, 0, none⟩), .int .i64 d, .int .i64 k] wr fun e w' => e = .returned (.int .i64 (flab E X Y d k)) ∧ wr = w' := fun wr hb d k hd hd2 hv => by
    have := get_fwd (h.below hb) d k hv (by omega) hd2
    rwa [hL d k hd hv] at this
  have HG := Aside0.mk hgL
  clear hst h h0 h1 hL hL0 hgL
  go_enter Tryz.func84, Tryz.ntmps84
  go_wp2_with (go_at_call 80; refine hg0.mono ?_; rintro e w' ⟨rfl, rfl⟩)
  clear hg0
  go_loopw [1, 2, 7, 8] (fun v1 v2 v7 v8 wr => ∃ (D : Nat) (k x : Int) (l : List Dg), v1 = .int .i64 D ∧ v2 = .int .i64 k ∧ v8 = .int .i64 x ∧ Aside0 (FkP E X Y D0 (flab E X Y D0 k0) (flab E X Y D0 k0 - k0) D k x l) ∧ DgRow wr W.heap.size v7 l ∧ Below W.heap.size W wr) (fun _ v2 _ v8 _ => (2 * intOf v8 - intOf v2).toNat)
  case atStart => exact ⟨D0, k0, _, [], rfl, rfl, rfl, HST, ⟨rfl, Or.inl ⟨rfl, rfl⟩⟩, Below.refl _ _⟩
  case round =>
    obtain ⟨D, k, x, l, rfl, rfl, rfl, HB, hrow, hbel⟩ := hrel
    have hx := H.out.below hbel
    obtain ⟨vf, vb, Ff, Fb, hx⟩ := hx
    have c4 : wr.cell? ⟨ge, 4, none⟩ = some (.int .i64 0) := (blk_cell hx.cells 4).trans rfl
    have c5 : wr.cell? ⟨ge, 5, none⟩ = some (.int .i64 0) := (blk_cell hx.cells 5).trans rfl
    obtain ⟨bv, b1, b3, b2, b4, b6a⟩ := HB.out.bounds
    have b6 : D < 1099511627776 := by omega
    have b7 : D < nf := by omega
    have b8 : -1099511627776 ≤ k ∧ k ≤ 1099511627776 := by obtain ⟨a, b, _⟩ := bv; omega
    have HBW := Aside0.mk hbel
    have HRW := Aside0.mk hrow
    have HV := Aside0.mk bv
    clear hx hrow hbel bv
    by_cases hend : x = 0 ∧ x - k = 0
    · obtain ⟨e1, e2⟩ := hend
      have t1 : (x != (0 : Int)) = false := by simp [e1]
      have t2 : (x - k != (0 : Int)) = false := by simp [e2]
      clear e1 e2
      go_wp2_with fail
      go_ret
      exact ⟨_, l, rfl, HRW.out, HBW.out, HB.out.fin⟩
    · have HE := Lib.hid hend
      go_upto_region 3 with fail
      go_cut [21] from 14 to 21 (fun v21 w => v21 = .bool true ∧ w = wr)
      case first =>
        by_cases hxN : x = 0
        · have t1 : (x != (0 : Int)) = false := by simp [hxN]
          have t2 : (x - k != (0 : Int)) = true := by rw [bne_iff_ne]; exact fun e => hend ⟨hxN, e⟩
          clear hxN hend
          go_wp2_with fail
          go_meet
          exact ⟨rfl, rfl⟩
        · have t1 : (x != (0 : Int)) = true := by rw [bne_iff_ne]; exact hxN
          clear hend
          go_wp2_with fail
          go_meet
          exact ⟨rfl, rfl⟩
      case rest =>
        obtain ⟨rfl, hwq⟩ := hcut
        rw [← hwq] at HBW HRW c4 c5
        clear hwq
        have hsm := HB.out.small hX hY
        have happ := fun (hx0 : 0 < x) (hy0 : 0 < x - k) => lcs_prepend wc.drew W.heap.size HBW.out.size u7 l HRW.out (x - 1) (x - k - 1) (by omega) (by omega) (by omega) hsm.2
        have hp2 := HB.out.diag HE.out
        have hpre : (∀ d, D = d + 1 → valid d (k - 1) → x - 1 ≠ flab E X Y d (k - 1)) → (∀ d, D = d + 1 → valid d (k + 1) → x ≠ flab E X Y d (k + 1)) → _ := fun a b => happ (hp2 a b).2.1 (hp2 a b).2.2
        have HAPP0 := Aside0.mk hpre
        have HP2 := Aside0.mk hp2
        clear hsm happ hp2 hpre
        have HM : Hid (0 ≤ 2 * x - k) := Lib.hid (by omega)
        rcases D with _ | D
        · have ho1 := ok_false wc (-1) (k - 1) (by omega) (by omega) (by omega)
          have ho2 := ok_false wc (-1) (k + 1) (by omega) (by omega) (by omega)
          have HU1a : Aside0 (∀ d, 0 = d + 1 → valid d (k - 1) → x - 1 ≠ flab E X Y d (k - 1)) := ⟨fun d h => by omega⟩
          have HU2a : Aside0 (∀ d, 0 = d + 1 → valid d (k + 1) → x ≠ flab E X Y d (k + 1)) := ⟨fun d h => by omega⟩
          have HAPP := Aside0.mk (HAPP0.out HU1a.out HU2a.out)
          have HXP := Lib.hid (HP2.out HU1a.out HU2a.out).2
          have HU1 := Aside0.mk (HU1a.out)
          have HU2 := Aside0.mk (HU2a.out)
          clear hend
          go_wp2_with (go_at_call 99; first | (with_reducible refine ho1.mono ?_; rintro e w' ⟨rfl, rfl⟩) | (with_reducible refine ho2.mono ?_; rintro e w' ⟨rfl, rfl⟩))
          have hw1 : IntKind.i64.wrap x = x := IntWalk.i64_in _ (by omega)
          have hw2 : IntKind.i64.wrap (x - k) = x - k := IntWalk.i64_in _ (by omega)
          have hw3 : IntKind.i64.wrap (x - 1) = x - 1 := IntWalk.i64_in _ (by omega)
          have hw4 : IntKind.i64.wrap (x - k - 1) = x - k - 1 := IntWalk.i64_in _ (by omega)
          go_still_tail 15, (by kernel_rfl)
          clear hw1 hw2 hw3 hw4
          change wpList _ _ _ _ _ wc.drew
          go_wp2_with (go_at_call 101; refine HAPP.out.mono ?_; rintro e w2 ⟨v2, rfl, hr2, hb2⟩; have HR2 := Aside0.mk hr2; have HW2 := Aside0.mk hb2; clear hr2 hb2)
          go_roundw
          case rel => exact ⟨0, k, x - 1, _, by go_num, rfl, by go_num, Aside0.mk (HP2.out HU1.out HU2.out).1, HR2.out, HBW.out.drew.trans HW2.out⟩
          case measure => have := HM.out; have := HXP.out; simp [intOf]; omega
        · have hv2 : ∀ k', ((k' - k) % 2 = 1) → -(D : Int) ≤ k' → k' ≤ D → valid D k' := fun k' h1 h2 h3 => ⟨h2, h3, by obtain ⟨_, _, h4⟩ := HV.out; omega⟩
          have bD : D < D0 := by omega
          have bD2 : D < 1099511627776 := by omega
          by_cases hA : -(D : Int) ≤ k - 1 ∧ k - 1 ≤ D
          · have va := hv2 (k - 1) (by omega) hA.1 hA.2
            have ho1 := ok_true wc D (k - 1) (by omega) (by omega)
            have hg1 := HG.out wc HBW.out D (k - 1) bD bD2 va
            by_cases he1 : x - 1 = flab E X Y D (k - 1)
            · have t1 : (x - 1 == flab E X Y D (k - 1)) = true := by simpa using he1
              have HX := Aside0.mk (HB.out.left va he1)
              clear he1 va hv2 hA hend
              go_wp2_with (first | (go_at_call 99; first | (with_reducible refine ho1.mono ?_; rintro e w' ⟨rfl, rfl⟩)) | (go_at_call 80; first | (with_reducible refine hg1.mono ?_; rintro e w' ⟨rfl, rfl⟩)))
              go_roundw
              case rel => exact ⟨D, k - 1, x - 1, _, by go_num, rfl, by go_num, HX, HRW.out, HBW.out⟩
              case measure => have := HM.out; have := (HX.out).bounds; simp [intOf]; omega
            · have t1 : (x - 1 == flab E X Y D (k - 1)) = false := by simpa using he1
              have HU1a : Aside0 (∀ d, D + 1 = d + 1 → valid d (k - 1) → x - 1 ≠ flab E X Y d (k - 1)) := ⟨fun d h _ => (show D = d by omega) ▸ he1⟩
              clear he1 va
              by_cases hB : -(D : Int) ≤ k + 1 ∧ k + 1 ≤ D
              · have vb := hv2 (k + 1) (by omega) hB.1 hB.2
                have ho2 := ok_true wc D (k + 1) (by omega) (by omega)
                have hg2 := HG.out wc HBW.out D (k + 1) bD bD2 vb
                by_cases he2 : x = flab E X Y D (k + 1)
                · have t2 : (x == flab E X Y D (k + 1)) = true := by simpa using he2
                  have HX := Aside0.mk (HB.out.down vb he2)
                  clear he2 vb hv2 hA hB hend
                  go_wp2_with (first | (go_at_call 99; first | (with_reducible refine ho1.mono ?_; rintro e w' ⟨rfl, rfl⟩) | (with_reducible refine ho2.mono ?_; rintro e w' ⟨rfl, rfl⟩)) | (go_at_call 80; first | (with_reducible refine hg1.mono ?_; rintro e w' ⟨rfl, rfl⟩) | (with_reducible refine hg2.mono ?_; rintro e w' ⟨rfl, rfl⟩)))
                  go_roundw
                  case rel => exact ⟨D, k + 1, x, _, by go_num, rfl, rfl, HX, HRW.out, HBW.out⟩
                  case measure => have := HM.out; have := (HX.out).bounds; simp [intOf]; omega
                · have t2 : (x == flab E X Y D (k + 1)) = false := by simpa using he2
                  have HU2a : Aside0 (∀ d, D + 1 = d + 1 → valid d (k + 1) → x ≠ flab E X Y d (k + 1)) := ⟨fun d h _ => (show D = d by omega) ▸ he2⟩
                  clear he2 vb
                  have HAPP := Aside0.mk (HAPP0.out HU1a.out HU2a.out)
                  have HXP := Lib.hid (HP2.out HU1a.out HU2a.out).2
                  have HU1 := Aside0.mk (HU1a.out)
                  have HU2 := Aside0.mk (HU2a.out)
                  clear hv2 hA hB hend
                  go_wp2_with (first | (go_at_call 99; first | (with_reducible refine ho1.mono ?_; rintro e w' ⟨rfl, rfl⟩) | (with_reducible refine ho2.mono ?_; rintro e w' ⟨rfl, rfl⟩)) | (go_at_call 80; first | (with_reducible refine hg1.mono ?_; rintro e w' ⟨rfl, rfl⟩) | (with_reducible refine hg2.mono ?_; rintro e w' ⟨rfl, rfl⟩)))
                  have hw1 : IntKind.i64.wrap x = x := IntWalk.i64_in _ (by omega)
                  have hw2 : IntKind.i64.wrap (x - k) = x - k := IntWalk.i64_in _ (by omega)
                  have hw3 : IntKind.i64.wrap (x - 1) = x - 1 := IntWalk.i64_in _ (by omega)
                  have hw4 : IntKind.i64.wrap (x - k - 1) = x - k - 1 := IntWalk.i64_in _ (by omega)
                  go_still_tail 15, (by kernel_rfl)
                  clear hw1 hw2 hw3 hw4
                  change wpList _ _ _ _ _ wc.drew
                  go_wp2_with (go_at_call 101; refine HAPP.out.mono ?_; rintro e w2 ⟨v2, rfl, hr2, hb2⟩; have HR2 := Aside0.mk hr2; have HW2 := Aside0.mk hb2; clear hr2 hb2)
                  go_roundw
                  case rel => exact ⟨D + 1, k, x - 1, _, by go_num, rfl, by go_num, Aside0.mk (HP2.out HU1.out HU2.out).1, HR2.out, HBW.out.drew.trans HW2.out⟩
                  case measure => have := HM.out; have := HXP.out; simp [intOf]; omega
              · have ho2 := ok_false wc D (k + 1) (by omega) (by omega) (by omega)
                have HU2a : Aside0 (∀ d, D + 1 = d + 1 → valid d (k + 1) → x ≠ flab E X Y d (k + 1)) := ⟨fun d h hv => absurd ((show D = d by omega) ▸ ⟨hv.1, hv.2.1⟩ : -(D : Int) ≤ k + 1 ∧ k + 1 ≤ D) hB⟩
                have HAPP := Aside0.mk (HAPP0.out HU1a.out HU2a.out)
                have HXP := Lib.hid (HP2.out HU1a.out HU2a.out).2
                have HU1 := Aside0.mk (HU1a.out)
                have HU2 := Aside0.mk (HU2a.out)
                clear hv2 hA hB hend
                go_wp2_with (first | (go_at_call 99; first | (with_reducible refine ho1.mono ?_; rintro e w' ⟨rfl, rfl⟩) | (with_reducible refine ho2.mono ?_; rintro e w' ⟨rfl, rfl⟩)) | (go_at_call 80; first | (with_reducible refine hg1.mono ?_; rintro e w' ⟨rfl, rfl⟩)))
                have hw1 : IntKind.i64.wrap x = x := IntWalk.i64_in _ (by omega)
                have hw2 : IntKind.i64.wrap (x - k) = x - k := IntWalk.i64_in _ (by omega)
                have hw3 : IntKind.i64.wrap (x - 1) = x - 1 := IntWalk.i64_in _ (by omega)
                have hw4 : IntKind.i64.wrap (x - k - 1) = x - k - 1 := IntWalk.i64_in _ (by omega)
                go_still_tail 15, (by kernel_rfl)
                clear hw1 hw2 hw3 hw4
                change wpList _ _ _ _ _ wc.drew
                go_wp2_with (go_at_call 101; refine HAPP.out.mono ?_; rintro e w2 ⟨v2, rfl, hr2, hb2⟩; have HR2 := Aside0.mk hr2; have HW2 := Aside0.mk hb2; clear hr2 hb2)
                go_roundw
                case rel => exact ⟨D + 1, k, x - 1, _, by go_num, rfl, by go_num, Aside0.mk (HP2.out HU1.out HU2.out).1, HR2.out, HBW.out.drew.trans HW2.out⟩
                case measure => have := HM.out; have := HXP.out; simp [intOf]; omega
          · have ho1 := ok_false wc D (k - 1) (by omega) (by omega) (by omega)
            have HU1a : Aside0 (∀ d, D + 1 = d + 1 → valid d (k - 1) → x - 1 ≠ flab E X Y d (k - 1)) := ⟨fun d h hv => absurd ((show D = d by omega) ▸ ⟨hv.1, hv.2.1⟩ : -(D : Int) ≤ k - 1 ∧ k - 1 ≤ D) hA⟩
            by_cases hB : -(D : Int) ≤ k + 1 ∧ k + 1 ≤ D
            · have vb := hv2 (k + 1) (by omega) hB.1 hB.2
              have ho2 := ok_true wc D (k + 1) (by omega) (by omega)
              have hg2 := HG.out wc HBW.out D (k + 1) bD bD2 vb
              by_cases he2 : x = flab E X Y D (k + 1)
              · have t2 : (x == flab E X Y D (k + 1)) = true := by simpa using he2
                have HX := Aside0.mk (HB.out.down vb he2)
                clear he2 vb hv2 hA hB hend
                go_wp2_with (first | (go_at_call 99; first | (with_reducible refine ho1.mono ?_; rintro e w' ⟨rfl, rfl⟩) | (with_reducible refine ho2.mono ?_; rintro e w' ⟨rfl, rfl⟩)) | (go_at_call 80; first | (with_reducible refine hg2.mono ?_; rintro e w' ⟨rfl, rfl⟩)))
                go_roundw
                case rel => exact ⟨D, k + 1, x, _, by go_num, rfl, rfl, HX, HRW.out, HBW.out⟩
                case measure => have := HM.out; have := (HX.out).bounds; simp [intOf]; omega
              · have t2 : (x == flab E X Y D (k + 1)) = false := by simpa using he2
                have HU2a : Aside0 (∀ d, D + 1 = d + 1 → valid d (k + 1) → x ≠ flab E X Y d (k + 1)) := ⟨fun d h _ => (show D = d by omega) ▸ he2⟩
                clear he2 vb
                have HAPP := Aside0.mk (HAPP0.out HU1a.out HU2a.out)
                have HXP := Lib.hid (HP2.out HU1a.out HU2a.out).2
                have HU1 := Aside0.mk (HU1a.out)
                have HU2 := Aside0.mk (HU2a.out)
                clear hv2 hA hB hend
                go_wp2_with (first | (go_at_call 99; first | (with_reducible refine ho1.mono ?_; rintro e w' ⟨rfl, rfl⟩) | (with_reducible refine ho2.mono ?_; rintro e w' ⟨rfl, rfl⟩)) | (go_at_call 80; first | (with_reducible refine hg2.mono ?_; rintro e w' ⟨rfl, rfl⟩)))
                have hw1 : IntKind.i64.wrap x = x := IntWalk.i64_in _ (by omega)
                have hw2 : IntKind.i64.wrap (x - k) = x - k := IntWalk.i64_in _ (by omega)
                have hw3 : IntKind.i64.wrap (x - 1) = x - 1 := IntWalk.i64_in _ (by omega)
                have hw4 : IntKind.i64.wrap (x - k - 1) = x - k - 1 := IntWalk.i64_in _ (by omega)
                go_still_tail 15, (by kernel_rfl)
                clear hw1 hw2 hw3 hw4
                change wpList _ _ _ _ _ wc.drew
                go_wp2_with (go_at_call 101; refine HAPP.out.mono ?_; rintro e w2 ⟨v2, rfl, hr2, hb2⟩; have HR2 := Aside0.mk hr2; have HW2 := Aside0.mk hb2; clear hr2 hb2)
                go_roundw
                case rel => exact ⟨D + 1, k, x - 1, _, by go_num, rfl, by go_num, Aside0.mk (HP2.out HU1.out HU2.out).1, HR2.out, HBW.out.drew.trans HW2.out⟩
                case measure => have := HM.out; have := HXP.out; simp [intOf]; omega
            · have ho2 := ok_false wc D (k + 1) (by omega) (by omega) (by omega)
              have HU2a : Aside0 (∀ d, D + 1 = d + 1 → valid d (k + 1) → x ≠ flab E X Y d (k + 1)) := ⟨fun d h hv => absurd ((show D = d by omega) ▸ ⟨hv.1, hv.2.1⟩ : -(D : Int) ≤ k + 1 ∧ k + 1 ≤ D) hB⟩
              have HAPP := Aside0.mk (HAPP0.out HU1a.out HU2a.out)
              have HXP := Lib.hid (HP2.out HU1a.out HU2a.out).2
              have HU1 := Aside0.mk (HU1a.out)
              have HU2 := Aside0.mk (HU2a.out)
              clear hv2 hA hB hend
              go_wp2_with (go_at_call 99; first | (with_reducible refine ho1.mono ?_; rintro e w' ⟨rfl, rfl⟩) | (with_reducible refine ho2.mono ?_; rintro e w' ⟨rfl, rfl⟩))
              have hw1 : IntKind.i64.wrap x = x := IntWalk.i64_in _ (by omega)
              have hw2 : IntKind.i64.wrap (x - k) = x - k := IntWalk.i64_in _ (by omega)
              have hw3 : IntKind.i64.wrap (x - 1) = x - 1 := IntWalk.i64_in _ (by omega)
              have hw4 : IntKind.i64.wrap (x - k - 1) = x - k - 1 := IntWalk.i64_in _ (by omega)
              go_still_tail 15, (by kernel_rfl)
              clear hw1 hw2 hw3 hw4
              change wpList _ _ _ _ _ wc.drew
              go_wp2_with (go_at_call 101; refine HAPP.out.mono ?_; rintro e w2 ⟨v2, rfl, hr2, hb2⟩; have HR2 := Aside0.mk hr2; have HW2 := Aside0.mk hb2; clear hr2 hb2)
              go_roundw
              case rel => exact ⟨D + 1, k, x - 1, _, by go_num, rfl, by go_num, Aside0.mk (HP2.out HU1.out HU2.out).1, HR2.out, HBW.out.drew.trans HW2.out⟩
              case measure => have := HM.out; have := HXP.out; simp [intOf]; omega
end
end Go.Proofs.YtonajgipkpnpoaaGreatDoor.Gr
namespace Go.Proofs.YtonajgipkpnpoaaGreatDoor.Gr
open Go.RowKit Go.Proofs.YtonajgipkpnpoaaGreatDoorW.PrintWords Go.Myers
set_option linter.unusedVariables false
structure LvB (E : Nat → Nat → Bool) (N : Nat) (dl : Int) (nb : Nat) (Lb : Nat → Nat → Int) (D : Nat) (K : Int → Prop) : Prop where
  low : ∀ d k, d < D → valid d k → Lb d (ix d k) = lab E N dl d k
  at_ : ∀ k, K k → valid D k ∧ Lb D (ix D k) = lab E N dl D k
  le : D ≤ nb
  lt : ∀ k, K k → D < nb
structure LvF (E : Nat → Nat → Bool) (X Y : Nat) (nf : Nat) (Lf : Nat → Nat → Int) (D : Nat) (K : Int → Prop) : Prop where
  low : ∀ d k, d < D → valid d k → Lf d (ix d k) = flab E X Y d k
  at_ : ∀ k, K k → valid D k ∧ Lf D (ix D k) = flab E X Y D k
  le : D ≤ nf
  lt : ∀ k, K k → D < nf
structure Cx where
  W0 : World
  B : Nat
  ge : Nat
  sq : Value
  lim : Nat
  N : Nat
  M : Nat
  F0 : Nat → Prop
  E : Nat → Nat → Bool
def Cx.dl (c : Cx) : Int := (c.N : Int) - c.M
structure Cx.ok (c : Cx) : Prop where
  hN : c.N ≤ 1000000
  hM : c.M ≤ 1000000
  hlim : c.lim ≤ 100000
  lo : ∀ k, c.F0 k → c.B ≤ k
  hB : c.B ≤ c.W0.heap.size
theorem Cx.ok.dl {c : Cx} (ho : c.ok) : -1000000 ≤ c.dl ∧ c.dl ≤ 1000000 := by have := ho.hN; have := ho.hM; unfold Cx.dl; omega
def GS (c : Cx) (X Y : Nat) (w : World) (Df : Nat) (Kf : Int → Prop) (Db : Nat) (Kb : Int → Prop) : Prop :=
  ∃ F nf Lf nb Lb, Step c.W0 w c.F0 F ∧ EG w c.B c.ge c.sq c.lim X Y c.dl F nf Lf nb Lb ∧ SQ w F c.sq c.E c.N c.M ∧ LvF c.E X Y nf Lf Df Kf ∧ LvB c.E c.N c.dl nb Lb Db Kb
section
variable {c : Cx} {X Y : Nat} {w : World} {Df Db : Nat} {Kf Kb Kf' Kb' : Int → Prop}
theorem GS.below {w' : World} (h : GS c X Y w Df Kf Db Kb) (hb : Below w.heap.size w w') : GS c X Y w' Df Kf Db Kb := by
  obtain ⟨F, nf, Lf, nb, Lb, h1, h2, h3, h4⟩ := h
  exact ⟨F, nf, Lf, nb, Lb, h1.trans (Step.of_below hb), h2.below hb, h3.step (Step.of_below hb), h4⟩
theorem GS.nextF (h : GS c X Y w Df Kf Db Kb) (hk : ∀ k, valid Df k → Kf k) : GS c X Y w (Df + 1) (fun _ => False) Db Kb := by
  obtain ⟨F, nf, Lf, nb, Lb, h1, h2, h3, h4, h5⟩ := h
  refine ⟨F, nf, Lf, nb, Lb, h1, h2, h3, ⟨fun d k hd hv => ?_, fun k hk => hk.elim, ?_, fun k hk => hk.elim⟩, h5⟩
  · rcases Nat.lt_or_ge d Df with e | e
    · exact h4.low d k e hv
    · obtain rfl : d = Df := by omega
      exact (h4.at_ k (hk k hv)).2
  · exact h4.lt (Df : Int) (hk _ ⟨by omega, by omega, by omega⟩)
theorem GS.nextB (h : GS c X Y w Df Kf Db Kb) (hk : ∀ k, valid Db k → Kb k) : GS c X Y w Df Kf (Db + 1) (fun _ => False) := by
  obtain ⟨F, nf, Lf, nb, Lb, h1, h2, h3, h4, h5⟩ := h
  refine ⟨F, nf, Lf, nb, Lb, h1, h2, h3, h4, ⟨fun d k hd hv => ?_, fun k hk => hk.elim, ?_, fun k hk => hk.elim⟩⟩
  · rcases Nat.lt_or_ge d Db with e | e
    · exact h5.low d k e hv
    · obtain rfl : d = Db := by omega
      exact (h5.at_ k (hk k hv)).2
  · exact h5.lt (Db : Int) (hk _ ⟨by omega, by omega, by omega⟩)
theorem gs_getF (h : GS c X Y w Df Kf Db Kb) (d : Nat) (k : Int) (hd : d < Df) (hv : valid d k) (hn : d < 1099511627776) :
    Calls Tryz.prog 80 #[.pointer (some ⟨c.ge, 0, none⟩), .int .i64 d, .int .i64 k] w fun e w' => e = .returned (.int .i64 (flab c.E X Y d k)) ∧ w = w' := by
  obtain ⟨F, nf, Lf, nb, Lb, h1, h2, h3, h4, h5⟩ := h
  have := get_fwd h2 d k hv (by have := h4.le; omega) hn
  rwa [h4.low d k hd hv] at this
theorem gs_getB (h : GS c X Y w Df Kf Db Kb) (d : Nat) (k : Int) (hd : d < Db) (hv : valid d k) (hn : d < 1099511627776) :
    Calls Tryz.prog 82 #[.pointer (some ⟨c.ge, 0, none⟩), .int .i64 d, .int .i64 k] w fun e w' => e = .returned (.int .i64 (lab c.E c.N c.dl d k)) ∧ w = w' := by
  obtain ⟨F, nf, Lf, nb, Lb, h1, h2, h3, h4, h5⟩ := h
  have := get_back h2 d k hv (by have := h5.le; omega) hn
  rwa [h5.low d k hd hv] at this
theorem gs_labF (h : GS c X Y w Df Kf Db Kb) (d : Nat) (k : Int) (hd : d < Df) (hv : valid d k) (hn : d < 1099511627776) :
    Calls Tryz.prog 97 #[.pointer (some ⟨c.ge, 1, none⟩), .int .i64 d, .int .i64 k] w fun e w' => e = .returned (.int .i64 (flab c.E X Y d k)) ∧ w = w' := by
  obtain ⟨F, nf, Lf, nb, Lb, h1, ⟨vf, vb, Ff, Fb, h2⟩, h3, h4, h5⟩ := h
  have hi := ix_of hv
  have := label_get w c.B c.ge 1 Ff vf nf Lf ((blk_cell h2.cells 1).trans rfl) h2.tf d (ix d k) k (by have := h4.le; omega) hi.1 hi.2 hn
  rwa [h4.low d k hd hv] at this
theorem gs_labB (h : GS c X Y w Df Kf Db Kb) (d : Nat) (k : Int) (hd : d < Db) (hv : valid d k) (hn : d < 1099511627776) :
    Calls Tryz.prog 97 #[.pointer (some ⟨c.ge, 2, none⟩), .int .i64 d, .int .i64 k] w fun e w' => e = .returned (.int .i64 (lab c.E c.N c.dl d k)) ∧ w = w' := by
  obtain ⟨F, nf, Lf, nb, Lb, h1, ⟨vf, vb, Ff, Fb, h2⟩, h3, h4, h5⟩ := h
  have hi := ix_of hv
  have := label_get w c.B c.ge 2 Fb vb nb Lb ((blk_cell h2.cells 2).trans rfl) h2.tb d (ix d k) k (by have := h5.le; omega) hi.1 hi.2 hn
  rwa [h5.low d k hd hv] at this
theorem gs_cells (h : GS c X Y w Df Kf Db Kb) : w.cell? ⟨c.ge, 3, none⟩ = some (.int .i64 c.lim) ∧ w.cell? ⟨c.ge, 4, none⟩ = some (.int .i64 0) ∧ w.cell? ⟨c.ge, 5, none⟩ = some (.int .i64 0) ∧ w.cell? ⟨c.ge, 6, none⟩ = some (.int .i64 X) ∧ w.cell? ⟨c.ge, 7, none⟩ = some (.int .i64 Y) ∧ w.cell? ⟨c.ge, 8, none⟩ = some (.int .i64 c.dl) := by
  obtain ⟨F, nf, Lf, nb, Lb, h1, ⟨vf, vb, Ff, Fb, h2⟩, _⟩ := h
  exact ⟨(blk_cell h2.cells 3).trans rfl, (blk_cell h2.cells 4).trans rfl, (blk_cell h2.cells 5).trans rfl, (blk_cell h2.cells 6).trans rfl, (blk_cell h2.cells 7).trans rfl, (blk_cell h2.cells 8).trans rfl⟩
theorem gs_lookB (ho : c.ok) (h : GS c X Y w Df Kf Db Kb) (k r : Int) (hk : -1099511627776 ≤ k ∧ k ≤ 1099511627776) (hr : -1099511627776 ≤ r ∧ r ≤ c.N) (hy : r - (k + c.dl) ≤ c.M) :
    Calls Tryz.prog 83 #[.pointer (some ⟨c.ge, 0, none⟩), .int .i64 k, .int .i64 r] w fun e w' => e = .returned (.int .i64 (Go.Myers.look c.E c.dl k r)) ∧ GS c X Y w' Df Kf Db Kb := by
  have h0 := h
  obtain ⟨F, nf, Lf, nb, Lb, h1, h2, h3, h4, h5⟩ := h
  have := ho.dl
  exact (look_back h2 h3 k r hk hr hy ⟨by omega, by omega⟩).mono fun e w' ⟨he, hb⟩ => ⟨he, h0.below hb⟩
theorem gs_lookF (h : GS c X Y w Df Kf Db Kb) (hX : X ≤ c.N) (hY : Y ≤ c.M) (k r : Int) (hk : -1099511627776 ≤ k ∧ k ≤ 1099511627776) (hr : 0 ≤ r ∧ r ≤ 2199023255552) (hy : 0 ≤ r - k) :
    Calls Tryz.prog 81 #[.pointer (some ⟨c.ge, 0, none⟩), .int .i64 k, .int .i64 r] w fun e w' => e = .returned (.int .i64 (lookF c.E X Y k r)) ∧ GS c X Y w' Df Kf Db Kb := by
  have h0 := h
  obtain ⟨F, nf, Lf, nb, Lb, h1, h2, h3, h4, h5⟩ := h
  exact (look_fwd h2 h3 hX hY k r hk hr hy).mono fun e w' ⟨he, hb⟩ => ⟨he, h0.below hb⟩
theorem gs_setB (ho : c.ok) (h : GS c X Y w Df Kf Db Kb) (k r : Int) (hv : valid Db k) (hn : Db < 1099511627776) (hr : -1099511627776 ≤ r ∧ r ≤ c.N) (hy : r - (k + c.dl) ≤ c.M) (hl : Go.Myers.look c.E c.dl k r = lab c.E c.N c.dl Db k) (hK : ∀ k', Kb' k' → Kb k' ∨ k' = k) :
    Calls Tryz.prog 77 #[.pointer (some ⟨c.ge, 0, none⟩), .int .i64 Db, .int .i64 k, .int .i64 r] w fun e w' => e = .returned (.tuple #[]) ∧ GS c X Y w' Df Kf Db Kb' := by
  obtain ⟨F, nf, Lf, nb, Lb, h1, h2, h3, h4, h5⟩ := h
  have := ho.dl
  have hle := h5.le
  refine (set_back h2 h3 Db k r hv hle hn hr hy ⟨by omega, by omega⟩).mono fun e w' ⟨he, F', L', s1, s2, s3, s4⟩ => ⟨he, F', nf, Lf, _, L', h1.trans s1, s2, h3.step s1, h4, ⟨fun d k' hd hv' => ?_, fun k' hk' => ?_, ?_, fun k' hk' => ?_⟩⟩
  · rw [s4 d _ (by omega) (by omega)]; exact h5.low d k' hd hv'
  · by_cases e : k' = k
    · subst e
      exact ⟨hv, s3.trans hl⟩
    · have hk2 := h5.at_ k' ((hK k' hk').resolve_right e)
      have hlt := h5.lt k' ((hK k' hk').resolve_right e)
      refine ⟨hk2.1, (s4 Db _ (by omega) (fun hh => e ?_)).trans hk2.2⟩
      have e1 := ix_of hv
      have e2 := ix_of hk2.1
      have := hh.2
      omega
  · split <;> omega
  · split <;> omega
theorem gs_setF (h : GS c X Y w Df Kf Db Kb) (hX : X ≤ c.N) (hY : Y ≤ c.M) (k r : Int) (hv : valid Df k) (hn : Df < 1099511627776) (hr : 0 ≤ r ∧ r ≤ 2199023255552) (hy : 0 ≤ r - k) (hl : lookF c.E X Y k r = flab c.E X Y Df k) (hK : ∀ k', Kf' k' → Kf k' ∨ k' = k) :
    Calls Tryz.prog 76 #[.pointer (some ⟨c.ge, 0, none⟩), .int .i64 Df, .int .i64 k, .int .i64 r] w fun e w' => e = .returned (.tuple #[]) ∧ GS c X Y w' Df Kf' Db Kb := by
  obtain ⟨F, nf, Lf, nb, Lb, h1, h2, h3, h4, h5⟩ := h
  have hle := h4.le
  refine (set_fwd h2 h3 hX hY Df k r hv hle hn hr hy).mono fun e w' ⟨he, F', L', s1, s2, s3, s4⟩ => ⟨he, F', _, L', nb, Lb, h1.trans s1, s2, h3.step s1, ⟨fun d k' hd hv' => ?_, fun k' hk' => ?_, ?_, fun k' hk' => ?_⟩, h5⟩
  · rw [s4 d _ (by omega) (by omega)]; exact h4.low d k' hd hv'
  · by_cases e : k' = k
    · subst e
      exact ⟨hv, s3.trans hl⟩
    · have hk2 := h4.at_ k' ((hK k' hk').resolve_right e)
      have hlt := h4.lt k' ((hK k' hk').resolve_right e)
      refine ⟨hk2.1, (s4 Df _ (by omega) (fun hh => e ?_)).trans hk2.2⟩
      have e1 := ix_of hv
      have e2 := ix_of hk2.1
      have := hh.2
      omega
  · split <;> omega
  · split <;> omega
theorem own_base_mono {w : World} {B B' e size n : Nat} {v : Value} {xs : List Value} (h : w.ownsRow B e size v n xs) (hB : B' ≤ B) : w.ownsRow B' e size v n xs :=
  ⟨h.1, h.2.imp id (fun ⟨g, cap, cur, a, b, r⟩ => ⟨g, cap, cur, a, by omega, r⟩)⟩
theorem gs_lcsB (ho : c.ok) (h : GS c c.N c.M w Df Kf Db Kb) (d : Nat) (k : Int) (hd : d < Db) (hv : valid d k) (hn : d < 1099511627776) (h0 : 0 ≤ lab c.E c.N c.dl d k) (h1 : 0 ≤ lab c.E c.N c.dl d k - (k + c.dl)) :
    Calls Tryz.prog 85 #[.pointer (some ⟨c.ge, 0, none⟩), .int .i64 d, .int .i64 k] w fun e w' => ∃ v l, e = .returned v ∧ DgRow w' w.heap.size v l ∧ Below w.heap.size w w' ∧ Chain c.E c.N c.M l (lab c.E c.N c.dl d k) (lab c.E c.N c.dl d k - (k + c.dl)) := by
  obtain ⟨F, nf, Lf, nb, Lb, s1, h2, h3, h4, h5⟩ := h
  have hN := ho.hN
  have hM := ho.hM
  exact (back_lcs h2 rfl (by omega) (by omega) d k (fun d' k' hd' hv' => h5.low d' k' (by omega) hv') (h5.low d k hd hv) hv (by have := h5.le; omega) hn h0 h1).mono fun e w' ⟨v, l, he, hb⟩ => ⟨v, l, he, hb.row, hb.bel, hb.ch⟩
theorem gs_lcsF (ho : c.ok) (h : GS c X Y w Df Kf Db Kb) (hX : X ≤ c.N) (hY : Y ≤ c.M) (d : Nat) (k : Int) (hd : d < Df) (hv : valid d k) (hn : d < 1099511627776) (h0 : flab c.E X Y d k ≤ X) (h1 : flab c.E X Y d k - k ≤ Y) :
    Calls Tryz.prog 84 #[.pointer (some ⟨c.ge, 0, none⟩), .int .i64 d, .int .i64 k] w fun e w' => ∃ v l, e = .returned v ∧ DgRow w' w.heap.size v l ∧ Below w.heap.size w w' ∧ Chain c.E (flab c.E X Y d k).toNat (flab c.E X Y d k - k).toNat l 0 0 := by
  obtain ⟨F, nf, Lf, nb, Lb, s1, h2, h3, h4, h5⟩ := h
  have hN := ho.hN
  have hM := ho.hM
  exact (fwd_lcs h2 (by omega) (by omega) d k (fun d' k' hd' hv' => h4.low d' k' (by omega) hv') (h4.low d k hd hv) hv (by have := h4.le; omega) hn h0 h1).mono fun e w' ⟨v, l, he, hb⟩ => ⟨v, l, he, hb.row, hb.bel, hb.ch⟩
theorem lab_bnd (ho : c.ok) {D : Nat} {k : Int} (hv : valid D k) (hD : D ≤ 1000000) : -1000000 ≤ lab c.E c.N c.dl D k ∧ lab c.E c.N c.dl D k ≤ c.N ∧ lab c.E c.N c.dl D k - (k + c.dl) ≤ c.M := by
  have h1 := lab_bound (E := c.E) (N := c.N) (M := c.M) (dl := c.dl) rfl D k hv
  have h2 := lab_lo (E := c.E) (N := c.N) (dl := c.dl) D k hv
  omega
theorem flab_bnd {D : Nat} {k : Int} (hv : valid D k) (hD : D ≤ 1000000) (hX : X ≤ 1000000) : 0 ≤ flab c.E X Y D k ∧ flab c.E X Y D k ≤ 2000000 ∧ 0 ≤ flab c.E X Y D k - k := by
  have h1 := flab_bound (E := c.E) (N := X) (M := Y) hv
  have h2 := flab_hi (E := c.E) (N := X) (M := Y) hv
  omega
end
end Go.Proofs.YtonajgipkpnpoaaGreatDoor.Gr
namespace Go.Proofs.YtonajgipkpnpoaaGreatDoor.Gr
open Go.RowKit Go.Proofs.YtonajgipkpnpoaaGreatDoorW.PrintWords Go.Myers
set_option linter.unusedVariables false
def TdAns (c : Cx) (df db : Nat) (w : World) (e : Ending) (w' : World) : Prop :=
  (∃ q, w' = w.drewN q) ∧ ((∃ k : Int, e = .returned (.tuple #[.int .i64 k, .bool true]) ∧ Met2 c.E c.N c.M df db k) ∨ (e = .returned (.tuple #[.int .i64 0, .bool false]) ∧ Apart2 c.E c.N c.M df db))
theorem tmod2 (a : Int) : a.tmod 2 = 0 ↔ a % 2 = 0 :=
  ⟨fun h => Int.emod_eq_zero_of_dvd (Int.dvd_of_tmod_eq_zero h), fun h => Int.tmod_eq_zero_of_dvd (Int.dvd_of_emod_eq_zero h)⟩
section
variable {c : Cx} {w : World} {df db : Nat} {Kf Kb : Int → Prop}
set_option maxRecDepth 100000 in
set_option maxHeartbeats 4000000 in
theorem two_done (ho : c.ok) (h : GS c c.N c.M w (df + 1) Kf (db + 1) Kb) (hdf : df ≤ 100000) (hdb : db ≤ 100000) :
    Calls Tryz.prog 78 #[.pointer (some ⟨c.ge, 0, none⟩), .int .i64 df, .int .i64 db] w fun e w' => TdAns c df db w e w' := by
  have hdl := ho.dl
  have hN := ho.hN
  have hM := ho.hM
  obtain ⟨-, c4, c5, c6, c7, c8⟩ := gs_cells h
  have HF : Aside0 (∀ q l, valid df l → Calls Tryz.prog 97 #[.pointer (some ⟨c.ge, 1, none⟩), .int .i64 df, .int .i64 l] (w.drewN q) fun e w' => e = .returned (.int .i64 (flab c.E c.N c.M df l)) ∧ w.drewN q = w') := ⟨fun q l hv => gs_labF (h.below (pw_below_drewN (Below.refl _ _) q)) df l (by omega) hv (by omega)⟩
  have HB : Aside0 (∀ q n l, valid db l → Calls Tryz.prog 97 #[.pointer (some ⟨c.ge, 2, none⟩), .int .i64 db, .int .i64 l] (w.drewN (q + n)) fun e w' => e = .returned (.int .i64 (lab c.E c.N c.dl db l)) ∧ ∃ m, w' = w.drewN (q + m)) := ⟨fun q n l hv => (gs_labB (h.below (pw_below_drewN (Below.refl _ _) (q + n))) db l (by omega) hv (by omega)).mono fun e w' ⟨h1, h2⟩ => ⟨h1, n, h2.symm⟩⟩
  have HO := Aside0.mk ho
  clear h
  by_cases hpar : ((df : Int) + db + c.dl).tmod 2 = 0
  · have HP := Lib.hid hpar
    go_enter Tryz.func78, Tryz.ntmps78
    have hodd := (tmod2 _).1 hpar
    have hpb : (((df : Int) + db + c.dl).tmod 2 != 0) = false := by simpa using hpar
    clear hpar
    go_upto_region 3 with fail
    go_cut [8] from 28 to 37 (fun v8 w2 => ∃ a : Int, v8 = .int .i64 a ∧ (a = -(df : Int) ∨ a = -(db : Int) + c.dl) ∧ -(df : Int) ≤ a ∧ -(db : Int) + c.dl ≤ a ∧ w = w2)
    case first =>
      go_wp2_with fail
      all_goals go_meet
      all_goals exact ⟨_, rfl, by omega, by omega, by omega, rfl⟩
    case rest =>
      obtain ⟨a, rfl, ha0, ha1, ha2, rfl⟩ := hcut
      go_upto_region 4 with fail
      go_cut [9] from 38 to 45 (fun v9 w2 => ∃ b : Int, v9 = .int .i64 b ∧ (b = (df : Int) ∨ b = (db : Int) + c.dl) ∧ b ≤ (df : Int) ∧ b ≤ (db : Int) + c.dl ∧ w = w2)
      case first =>
        go_wp2_with fail
        all_goals go_meet
        all_goals exact ⟨_, rfl, by omega, by omega, by omega, rfl⟩
      case rest =>
      obtain ⟨b, rfl, hb0, hb1, hb2, rfl⟩ := hcut
      go_wp2_with fail
      go_loopw [10] (fun v10 wr => ∃ (k : Int) (q : Nat), v10 = .int .i64 k ∧ -(df : Int) ≤ k ∧ -(db : Int) + c.dl ≤ k ∧ ((df : Int) + k) % 2 = 0 ∧ Aside0 (∀ l, valid df l → valid db (l - c.dl) → l < k → flab c.E c.N c.M df l < lab c.E c.N c.dl db (l - c.dl)) ∧ wr = w.drewN q) (fun v10 _ => ((df : Int) + 3 - intOf v10).toNat)
      case atStart => exact ⟨_, 0, rfl, by omega, by omega, by omega, ⟨fun l h1 h2 h3 => by obtain ⟨p1, p2, p3⟩ := h1; obtain ⟨p4, p5, p6⟩ := h2; omega⟩, rfl⟩
      case round =>
        obtain ⟨k, q, rfl, hk1, hk2, hk3, HA, rfl⟩ := hrel
        by_cases hk4 : k ≤ b
        · have hk5 : k ≤ (df : Int) ∧ k ≤ (db : Int) + c.dl := ⟨by omega, by omega⟩
          have HVf : Aside0 (valid df k) := ⟨⟨by omega, by omega, by omega⟩⟩
          have HVb : Aside0 (valid db (k - c.dl)) := ⟨⟨by omega, by omega, by omega⟩⟩
          have hb1 := flab_bnd (c := c) (X := c.N) (Y := c.M) HVf.out (by omega) HO.out.hN
          have hb2 := lab_bnd (c := c) HO.out HVb.out (by omega)
          by_cases hov : lab c.E c.N c.dl db (k - c.dl) ≤ flab c.E c.N c.M df k
          · go_wp2_with (go_at_call 97; refine (HF.out _ k HVf.out).mono ?_; rintro e w' ⟨rfl, rfl⟩)
            go_quiet ((go_at_call 97; exact HB.out _ _ (k - c.dl) HVb.out))
            go_wp2_with fail
            go_loopw [13] (fun v13 wr => ∃ (l : Int) (q : Nat), v13 = .int .i64 l ∧ k ≤ l ∧ ((df : Int) + l) % 2 = 0 ∧ Aside0 (∀ l2, valid df l2 → valid db (l2 - c.dl) → k ≤ l2 → l2 < l → ¬ Go.Myers.Spec c.E c.N c.M df db l2) ∧ wr = w.drewN q) (fun v13 _ => ((df : Int) + 3 - intOf v13).toNat)
            case atStart => exact ⟨k, _, rfl, by omega, by omega, ⟨fun l2 h1 h2 h3 h4 => by omega⟩, rfl⟩
            case round =>
              obtain ⟨l, q2, rfl, hl1, hl3, HL, rfl⟩ := hrel
              by_cases hl4 : l ≤ b
              · have hl5 : l ≤ (df : Int) ∧ l ≤ (db : Int) + c.dl := ⟨by omega, by omega⟩
                have HVf2 : Aside0 (valid df l) := ⟨⟨by omega, by omega, by omega⟩⟩
                have HVb2 : Aside0 (valid db (l - c.dl)) := ⟨⟨by omega, by omega, by omega⟩⟩
                have hb3 := flab_bnd (c := c) (X := c.N) (Y := c.M) HVf2.out (by omega) HO.out.hN
                have hb4 := lab_bnd (c := c) HO.out HVb2.out (by omega)
                have hgF := fun q => HF.out q l HVf2.out
                have hgB := fun q n => HB.out q n (l - c.dl) HVb2.out
                generalize hxd : flab c.E c.N c.M df l = x at hb3 hgF
                generalize hud : lab c.E c.N c.dl db (l - c.dl) = u at hb4 hgB
                have HXD := Aside0.mk hxd
                have HUD := Aside0.mk hud
                have HGF := Aside0.mk hgF
                have HGB := Aside0.mk hgB
                clear hxd hud hgF hgB hov
                by_cases hs0 : x = u
                · have t0 : (x == u) = true := by simpa using hs0
                  have HSP := Lib.hid hs0
                  clear hs0
                  go_wp2_with (go_at_call 97; refine (HGF.out _).mono ?_; rintro e w' ⟨rfl, rfl⟩)
                  go_quiet ((go_at_call 97; exact HGB.out _ _))
                  go_wp2_with fail
                  go_ret2
                  exact ⟨⟨_, rfl⟩, Or.inl ⟨l, rfl, HVf2.out, HVb2.out, Or.inl (Or.inl (HXD.out.trans (HSP.out.trans HUD.out.symm)))⟩⟩
                ·
                  by_cases hs1 : u = 0
                  · have t0 : (x == u) = false := by simpa using hs0
                    have t1 : (u == 0) = true := by simpa using hs1
                    have HSP := Lib.hid hs1
                    clear hs0 hs1
                    go_wp2_with (go_at_call 97; refine (HGF.out _).mono ?_; rintro e w' ⟨rfl, rfl⟩)
                    go_quiet ((go_at_call 97; exact HGB.out _ _))
                    go_wp2_with fail
                    go_ret2
                    exact ⟨⟨_, rfl⟩, Or.inl ⟨l, rfl, HVf2.out, HVb2.out, Or.inl (Or.inr (Or.inl (HUD.out.trans HSP.out)))⟩⟩
                  ·
                    by_cases hs2 : u - l = 0
                    · have t0 : (x == u) = false := by simpa using hs0
                      have t1 : (u == 0) = false := by simpa using hs1
                      have t2 : (u - l == 0) = true := by simpa using hs2
                      have HSP := Lib.hid hs2
                      clear hs0 hs1 hs2
                      go_wp2_with (go_at_call 97; refine (HGF.out _).mono ?_; rintro e w' ⟨rfl, rfl⟩)
                      go_quiet ((go_at_call 97; exact HGB.out _ _))
                      go_wp2_with fail
                      go_ret2
                      exact ⟨⟨_, rfl⟩, Or.inl ⟨l, rfl, HVf2.out, HVb2.out, Or.inl (Or.inr (Or.inr (Or.inl (by have h := HUD.out; unfold Cx.dl at h; rw [h]; exact HSP.out))))⟩⟩
                    ·
                      by_cases hs3 : x - l = (c.M : Int)
                      · have t0 : (x == u) = false := by simpa using hs0
                        have t1 : (u == 0) = false := by simpa using hs1
                        have t2 : (u - l == 0) = false := by simpa using hs2
                        have t3 : (x - l == (c.M : Int)) = true := by simpa using hs3
                        have HSP := Lib.hid hs3
                        clear hs0 hs1 hs2 hs3
                        go_wp2_with (go_at_call 97; refine (HGF.out _).mono ?_; rintro e w' ⟨rfl, rfl⟩)
                        go_quiet ((go_at_call 97; exact HGB.out _ _))
                        go_wp2_with fail
                        go_ret2
                        exact ⟨⟨_, rfl⟩, Or.inl ⟨l, rfl, HVf2.out, HVb2.out, Or.inl (Or.inr (Or.inr (Or.inr (Or.inl (by rw [HXD.out]; exact HSP.out)))))⟩⟩
                      ·
                        by_cases hs4 : x = (c.N : Int)
                        · have t0 : (x == u) = false := by simpa using hs0
                          have t1 : (u == 0) = false := by simpa using hs1
                          have t2 : (u - l == 0) = false := by simpa using hs2
                          have t3 : (x - l == (c.M : Int)) = false := by simpa using hs3
                          have t4 : (x == (c.N : Int)) = true := by simpa using hs4
                          have HSP := Lib.hid hs4
                          clear hs0 hs1 hs2 hs3 hs4
                          go_wp2_with (go_at_call 97; refine (HGF.out _).mono ?_; rintro e w' ⟨rfl, rfl⟩)
                          go_quiet ((go_at_call 97; exact HGB.out _ _))
                          go_wp2_with fail
                          go_ret2
                          exact ⟨⟨_, rfl⟩, Or.inl ⟨l, rfl, HVf2.out, HVb2.out, Or.inl (Or.inr (Or.inr (Or.inr (Or.inr ((by rw [HXD.out]; exact HSP.out))))))⟩⟩
                        ·
                          have t0 : (x == u) = false := by simpa using hs0
                          have t1 : (u == 0) = false := by simpa using hs1
                          have t2 : (u - l == 0) = false := by simpa using hs2
                          have t3 : (x - l == (c.M : Int)) = false := by simpa using hs3
                          have t4 : (x == (c.N : Int)) = false := by simpa using hs4
                          have HNS : Aside0 (¬ Go.Myers.Spec c.E c.N c.M df db l) := ⟨by
                            unfold Go.Myers.Spec
                            rw [HXD.out, show lab c.E c.N ((c.N : Int) - c.M) db (l - ((c.N : Int) - c.M)) = u from HUD.out]
                            rintro (h | h | h | h | h)
                            · exact hs0 h
                            · exact hs1 h
                            · exact hs2 h
                            · exact hs3 h
                            · exact hs4 h⟩
                          clear hs0 hs1 hs2 hs3 hs4
                          go_wp2_with (go_at_call 97; refine (HGF.out _).mono ?_; rintro e w' ⟨rfl, rfl⟩)
                          go_quiet ((go_at_call 97; exact HGB.out _ _))
                          go_wp2_with fail
                          go_roundw
                          case rel => exact ⟨l + 2, _, by go_num, by omega, by omega, ⟨fun l2 h1 h2 h3 h4 => by
                            by_cases e : l2 = l
                            · rw [e]; exact HNS.out
                            · refine HL.out l2 h1 h2 h3 ?_
                              have := HVf2.out.2.2
                              have := h1.2.2
                              omega⟩, rfl⟩
                          case measure => simp [intOf]; omega
              · go_wp2_with fail
                go_ret2
                exact ⟨⟨_, rfl⟩, Or.inl ⟨k, rfl, HVf.out, HVb.out, Or.inr ⟨fun l2 h1 h2 h3 => HL.out l2 h1 h2 h3 (by obtain ⟨p1, p2, p3⟩ := h1; obtain ⟨p4, p5, p6⟩ := h2; unfold Cx.dl at *; omega), fun l2 h1 h2 h3 => HA.out l2 h1 h2 h3⟩⟩⟩
          · go_wp2_with (go_at_call 97; refine (HF.out _ k HVf.out).mono ?_; rintro e w' ⟨rfl, rfl⟩)
            go_quiet ((go_at_call 97; exact HB.out _ _ (k - c.dl) HVb.out))
            go_wp2_with fail
            go_roundw
            case rel => exact ⟨k + 2, _, by go_num, by omega, by omega, by omega, ⟨fun l h1 h2 h3 => by
              by_cases e : l = k
              · rw [e]; omega
              · refine HA.out l h1 h2 ?_
                have := h1.2.2
                omega⟩, rfl⟩
            case measure => simp [intOf]; omega
        · go_wp2_with fail
          go_ret2
          exact ⟨⟨_, rfl⟩, Or.inr ⟨rfl, fun l h1 h2 => HA.out l h1 h2 (by obtain ⟨p1, p2, p3⟩ := h1; obtain ⟨p4, p5, p6⟩ := h2; unfold Cx.dl at *; omega)⟩⟩
  · have hpb : (((df : Int) + db + c.dl).tmod 2 != 0) = true := by simpa using hpar
    have HP := Lib.hid hpar
    clear hpar
    go_enter Tryz.func78, Tryz.ntmps78
    go_wp2_with fail
    go_ret2
    exact ⟨⟨0, rfl⟩, Or.inr ⟨rfl, fun k h1 h2 => by
      exfalso
      obtain ⟨_, _, p1⟩ := h1
      obtain ⟨_, _, p2⟩ := h2
      refine HP.out ((tmod2 _).2 ?_)
      unfold Cx.dl
      omega⟩⟩
end
end Go.Proofs.YtonajgipkpnpoaaGreatDoor.Gr
