/- The law's function. -/
import Derived.Test.YtonajgipkpnpoaaBwRo
namespace Go.Proofs.Ytonajgipkpnpoaa.QFnBackwardLead
open Go.RowKit Go.Proofs.YtonajgipkpnpoaaW.PrintWords Go.Proofs.YtonajgipkpnpoaaW.PrintLast Go.Proofs.YtonajgipkpnpoaaW.PrintMore Go.Myers Go.Proofs.Ytonajgipkpnpoaa.Gr

theorem eq_wrapped {l0 l1 : List Int} (i j : Nat) (hi : i < (l0.map wrap64).length) (hj : j < (l1.map wrap64).length) (h : Eof l0 l1 i j = true) : rd (l0.map wrap64) (i : Int) = rd (l1.map wrap64) (j : Int) := by
  unfold Eof at h
  rw [beq_iff_eq] at h
  rw [List.length_map] at hi hj
  unfold rd at h ⊢
  simp only [Int.toNat_natCast, List.getD_eq_getElem?_getD] at h ⊢
  rw [List.getElem?_map, List.getElem?_map, List.getElem?_eq_getElem hi, List.getElem?_eq_getElem hj] at *
  simp only [Option.map_some, Option.getD_some] at h ⊢
  rw [h]

theorem chain_map {E : Nat → Nat → Bool} {l0 l1 : List Int} {l : List Dg} (h : Chain E l0.length l1.length l 0 0) : Chain E (l0.map wrap64).length (l1.map wrap64).length l 0 0 := by rwa [List.length_map, List.length_map]

theorem lit2_C (W : World) (a b : Int) : Kd.C (Kd.int .i64) (W.alloc (.cells #[.int .i64 a, .int .i64 b] 3)) (some ⟨W.heap.size, 0, none⟩) 2 [a, b] := by
  refine ⟨rfl, by decide, fun _ => ⟨_, rfl, fun j p hj => ⟨[.int .i64 p], rfl, rfl, fun i u hu => ?_⟩⟩⟩
  have hi : i = 0 := by
    cases i with
    | zero => rfl
    | succ i => simp at hu
  subst hi
  obtain rfl : Value.int .i64 p = u := by simpa using hu
  rw [add_plain, blk_cell (new_obj W _)]
  show #[Value.int .i64 a, .int .i64 b][j * 1 + 0]? = _
  rw [Nat.mul_one, Nat.add_zero]
  match j, hj with
  | 0, hj => simp at hj; subst hj; rfl
  | 1, hj => simp at hj; subst hj; rfl
  | j + 2, hj => simp at hj

theorem road_at (w : World) {l0 l1 : List Int} {lim : Nat} {l : List Dg} {Ax Ay Ad Av : Option Addr} {cx cy cd cv : Nat} (hN : l0.length ≤ 1000000) (hM : l1.length ≤ 1000000) (ha : LcsAns (Eof l0 l1) l0.length l1.length lim l)
    (hx : Kd.C (Kd.int .i64) w Ax (l0.map wrap64).length (l0.map wrap64)) (hcx : (l0.map wrap64).length ≤ cx) (hy : Kd.C (Kd.int .i64) w Ay (l1.map wrap64).length (l1.map wrap64)) (hcy : (l1.map wrap64).length ≤ cy)
    (hd : Kd.C k58 w Ad ((dif l0.length l1.length l 0 0).map toI).length ((dif l0.length l1.length l 0 0).map toI)) (hcd : ((dif l0.length l1.length l 0 0).map toI).length ≤ cd) (hv : Kd.C k56 w Av ((l.map toP).map toQ).length ((l.map toP).map toQ)) (hcv : ((l.map toP).map toQ).length ≤ cv) :
    Calls Try.prog 14 #[.slice Ax l0.length cx, .slice Ay l1.length cy, .slice Ad (dif l0.length l1.length l 0 0).length cd, .slice Av l.length cv] w fun e w' => e = .returned (.bool true) ∧ Below w.heap.size w w' := by
  obtain ⟨k, hk⟩ := road_ev (x := l0.map wrap64) (y := l1.map wrap64) (E := Eof l0 l1) (by rw [List.length_map]; exact hN) (by rw [List.length_map]; exact hM) eq_wrapped l (chain_map ha.1)
  rw [List.length_map, List.length_map] at hk
  have := spec_Road.calls k Ax cx (l0.map wrap64) Ay cy (l1.map wrap64) Ad cd ((dif l0.length l1.length l 0 0).map toI) Av cv ((l.map toP).map toQ) true w hx hcx hy hcy hd hcd hv hcv hk
  simpa only [List.length_map] using this

set_option maxRecDepth 100000 in
theorem lead_calls (W : World) (A0 A1 : Option Addr) (c0 c1 : Nat) (l0 l1 : List Int) (h0 : Kd.C (Kd.int .u8) W A0 l0.length l0) (hc0 : l0.length ≤ c0) (h1 : Kd.C (Kd.int .u8) W A1 l1.length l1) (hc1 : l1.length ≤ c1) (hb0 : l0.length ≤ 1099511627776000) (hb1 : l1.length ≤ 1099511627776000) (n : Int) :
    Calls Try.prog 4 #[.slice A0 l0.length c0, .slice A1 l1.length c1, .int .i64 n] W fun e w' => e = .returned (.bool true) ∧ Below W.heap.size W w' := by
  obtain ⟨r, hr, hr2⟩ := long_ev l0.length l1.length
  by_cases hz0 : (l0.length : Int) > 2147483647
  · clear h0 h1 hr hr2
    go_enter Try.func4, Try.ntmps4
    go_wp2_with fail
    go_ret
    exact ⟨rfl, Below.refl _ _⟩
  · by_cases hz1 : (l1.length : Int) > 2147483647
    · clear h0 h1 hr hr2
      go_enter Try.func4, Try.ntmps4
      go_wp2_with fail
      go_ret
      exact ⟨rfl, Below.refl _ _⟩
    · have hlit := lit2_C W l0.length l1.length
      have hT := spec_TooLong.calls 3 (some ⟨W.heap.size, 0, none⟩) 2 [(l0.length : Int), (l1.length : Int)] r _ hlit (by simp) hr
      have HT := Aside0.mk hT
      have H0 := Aside0.mk h0
      have H1 := Aside0.mk h1
      clear hT hlit hr h0 h1
      cases r with
      | true =>
        clear hr2
        go_enter Try.func4, Try.ntmps4
        go_wp2_with (go_at_call 7; refine HT.out.mono ?_; rintro e w1 ⟨rfl, hd⟩; have HD := Aside0.mk hd; clear hd)
        go_ret
        exact ⟨rfl, (below_alloc (Below.refl _ _) _).trans (HD.out.below.mono (by simp))⟩
      | false =>
        have hsum : l0.length + l1.length ≤ 1000000 := hr2 rfl
        have hN : l0.length ≤ 1000000 := by omega
        have hM : l1.length ≤ 1000000 := by omega
        clear hr2
        have hsum2 : ¬ ((l0.length : Int) + (l1.length : Int) > 1048576) := by omega
        go_enter Try.func4, Try.ntmps4
        go_wp2_with (first
          | (go_at_call 7; refine HT.out.mono ?_; rintro e w1 ⟨rfl, hd⟩; have HB1 := Aside0.mk ((below_alloc (Below.refl W.heap.size W) _).trans (hd.below.mono (by simp))); clear hd)
          | (go_at_call 13; refine (implBackward_calls w1 A0 A1 c0 c1 l0 l1 (Kd.C_below H0.out HB1.out) hc0 (Kd.C_below H1.out HB1.out) hc1 hN hM n).mono ?_; rintro e w2 ⟨d, v, l, rfl, hd, hv, hb, ha⟩; obtain ⟨Ad, cd, rfl, hcd, hdC⟩ := Kd.R_reads hd; obtain ⟨Av, cv, rfl, hcv, hvC⟩ := Kd.R_reads hv; have HDC := Aside0.mk hdC; have HVC := Aside0.mk hvC; have HCD := Aside0.mk hcd; have HCV := Aside0.mk hcv; have HA := Aside0.mk ha; have HB2 := Aside0.mk (HB1.out.trans (hb.mono HB1.out.size)); clear hd hv hb ha hdC hvC hcd hcv)
          | (go_at_call 15; first
            | (refine (spec_OfBytes.calls _ A1 c1 l1 _ _ (Kd.C_below H1.out HB3.out) hc1 (ob_ev l1 hM)).mono ?_; rintro e w4 ⟨v1, rfl, hr, hb⟩; obtain ⟨Ay, cy, rfl, hcy, hyC⟩ := Kd.R_reads hr; have HB4 := Aside0.mk (HB3.out.trans (hb.mono HB3.out.size)); have hro := road_at w4 hN hM HA.out (Kd.C_below HXC.out hb) HCX.out hyC hcy (Kd.C_below HDC.out (HB23.out.trans (hb.mono HB23.out.size))) HCD.out (Kd.C_below HVC.out (HB23.out.trans (hb.mono HB23.out.size))) HCV.out; have HRO := Aside0.mk hro; clear hr hb hcy hyC hro)
            | (refine (spec_OfBytes.calls _ A0 c0 l0 _ _ (Kd.C_below H0.out HB2.out) hc0 (ob_ev l0 hN)).mono ?_; rintro e w3 ⟨v0, rfl, hr, hb⟩; obtain ⟨Ax, cx, rfl, hcx, hxC⟩ := Kd.R_reads hr; have HXC := Aside0.mk hxC; have HCX := Aside0.mk hcx; have HB3 := Aside0.mk (HB2.out.trans (hb.mono HB2.out.size)); have HB23 := Aside0.mk hb; clear hr hb hcx hxC))
          | (go_at_call 14; refine HRO.out.mono ?_; rintro e w5 ⟨rfl, hb⟩; have HB5 := Aside0.mk hb; clear hb))
        go_ret
        exact ⟨rfl, HB4.out.trans (HB5.out.mono HB4.out.size)⟩
end Go.Proofs.Ytonajgipkpnpoaa.QFnBackwardLead
