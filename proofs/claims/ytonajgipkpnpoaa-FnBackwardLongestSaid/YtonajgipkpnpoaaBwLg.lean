/- The law's function FnBackwardLongest. -/
import Derived.Test.YtonajgipkpnpoaaBwLd
import Derived.Test.YtonajgipkpnpoaaBwLo
namespace Go.Proofs.Ytonajgipkpnpoaa.QFnBackwardLead
open Go.RowKit Go.Proofs.YtonajgipkpnpoaaW.PrintWords Go.Proofs.YtonajgipkpnpoaaW.PrintLast Go.Proofs.YtonajgipkpnpoaaW.PrintMore Go.Myers Go.Proofs.Ytonajgipkpnpoaa.Gr

theorem map_wrap {l : List Int} (h : ∀ n ∈ l, 0 ≤ n ∧ n ≤ 255) : l.map wrap64 = l := by
  conv => rhs; rw [← List.map_id l]
  apply List.map_congr_left
  intro n hn
  have := h n hn
  exact w64 (by omega) (by omega)

theorem kept_at (w : World) {l0 l1 : List Int} {lim : Nat} {l : List Dg} {Ax Ay Ad : Option Addr} {cx cy cd : Nat} (hN : l0.length ≤ 1000000) (hM : l1.length ≤ 1000000) (ha : LcsAns (Eof l0 l1) l0.length l1.length lim l)
    (hx : Kd.C (Kd.int .i64) w Ax l0.length l0) (hcx : l0.length ≤ cx) (hy : Kd.C (Kd.int .i64) w Ay l1.length l1) (hcy : l1.length ≤ cy)
    (hd : Kd.C k58 w Ad ((dif l0.length l1.length l 0 0).map toI).length ((dif l0.length l1.length l 0 0).map toI)) (hcd : ((dif l0.length l1.length l 0 0).map toI).length ≤ cd) :
    Calls Try.prog 16 #[.slice Ax l0.length cx, .slice Ay l1.length cy, .slice Ad (dif l0.length l1.length l 0 0).length cd] w fun e w' => e = .returned (.tuple #[.int .i64 (total l), .bool true]) ∧ Below w.heap.size w w' := by
  obtain ⟨K, hk⟩ := kept_ev (x := l0) (y := l1) (E := Eof l0 l1) hN hM (fun i j _ _ h => by unfold Eof at h; exact beq_iff_eq.1 h) l ha.1
  have := spec_Kept.calls K Ax cx l0 Ay cy l1 Ad cd ((dif l0.length l1.length l 0 0).map toI) (total l) true w hx hcx hy hcy hd hcd (hk K (Nat.le_refl _))
  simpa only [List.length_map] using this

theorem longest_at (w : World) {l0 l1 : List Int} {Ax Ay : Option Addr} {cx cy : Nat} (hN : l0.length ≤ 1000000) (hM : l1.length ≤ 1000000)
    (hx : Kd.C (Kd.int .i64) w Ax l0.length l0) (hcx : l0.length ≤ cx) (hy : Kd.C (Kd.int .i64) w Ay l1.length l1) (hcy : l1.length ≤ cy) :
    Calls Try.prog 18 #[.slice Ax l0.length cx, .slice Ay l1.length cy] w fun e w' => e = .returned (.int .i64 (lc (Eof l0 l1) l0.length l1.length : Nat)) ∧ Below w.heap.size w w' := by
  obtain ⟨k, hk⟩ := QFnBackwardLongest.longest_ev hN hM
  exact QFnBackwardLongest.spec_Longest.calls k Ax cx l0 Ay cy l1 _ w hx hcx hy hcy hk

theorem ob_at (w : World) {l0 : List Int} {A0 : Option Addr} {c0 : Nat} (hN : l0.length ≤ 1000000) (hb : ∀ n ∈ l0, 0 ≤ n ∧ n ≤ 255) (h0 : Kd.C (Kd.int .u8) w A0 l0.length l0) (hc0 : l0.length ≤ c0) :
    Calls Try.prog 15 #[.slice A0 l0.length c0] w fun e w' => ∃ A c, e = .returned (.slice A l0.length c) ∧ l0.length ≤ c ∧ Kd.C (Kd.int .i64) w' A l0.length l0 ∧ Below w.heap.size w w' := by
  have h := ob_ev l0 hN
  rw [map_wrap hb] at h
  refine (spec_OfBytes.calls _ A0 c0 l0 _ w h0 hc0 h).mono ?_
  rintro e w' ⟨v, rfl, hr, hb⟩
  obtain ⟨A, c, rfl, hc, hC⟩ := Kd.R_reads hr
  exact ⟨A, c, rfl, hc, hC, hb⟩

theorem ans_longest {E : Nat → Nat → Bool} {N M lim : Nat} {l : List Dg} (h : LcsAns E N M lim l) (hl : (N : Int) + M < lim) : total l = (lc E N M : Int) := by
  rcases h.2 with ho | ⟨D0, h1, h2⟩
  · have := open_short ho
    omega
  · exact chain_longest h.1 h1 h2

set_option maxRecDepth 100000 in
set_option maxHeartbeats 4000000 in
theorem longest_calls (W : World) (A0 A1 : Option Addr) (c0 c1 : Nat) (l0 l1 : List Int) (h0 : Kd.C (Kd.int .u8) W A0 l0.length l0) (hc0 : l0.length ≤ c0) (h1 : Kd.C (Kd.int .u8) W A1 l1.length l1) (hc1 : l1.length ≤ c1) (hb0 : l0.length ≤ 1099511627776000) (hb1 : l1.length ≤ 1099511627776000) (hu0 : ∀ n ∈ l0, 0 ≤ n ∧ n ≤ 255) (hu1 : ∀ n ∈ l1, 0 ≤ n ∧ n ≤ 255) (n : Int) :
    Calls Try.prog 5 #[.slice A0 l0.length c0, .slice A1 l1.length c1, .int .i64 n] W fun e w' => e = .returned (.bool true) ∧ Below W.heap.size W w' := by
  obtain ⟨r, hr, hr2⟩ := long_ev l0.length l1.length
  have HU0 := Aside0.mk hu0
  have HU1 := Aside0.mk hu1
  clear hu0 hu1
  by_cases hz0 : (l0.length : Int) > 2147483647
  · clear h0 h1 hr hr2
    go_enter Try.func5, Try.ntmps5
    go_wp2_with fail
    go_ret
    exact ⟨rfl, Below.refl _ _⟩
  · by_cases hz1 : (l1.length : Int) > 2147483647
    · clear h0 h1 hr hr2
      go_enter Try.func5, Try.ntmps5
      go_wp2_with fail
      go_ret
      exact ⟨rfl, Below.refl _ _⟩
    · have hlit := lit2_C W l0.length l1.length
      have hT := spec_TooLong.calls 3 (some ⟨W.heap.size, 0, none⟩) 2 [(l0.length : Int), (l1.length : Int)] r _ hlit (by simp) hr
      have HT := Aside0.mk hT
      have H0 := Aside0.mk h0
      have H1 := Aside0.mk h1
      clear hT hlit hr h0 h1
      cases r with
      | true =>
        clear hr2
        go_enter Try.func5, Try.ntmps5
        go_wp2_with (go_at_call 7; refine HT.out.mono ?_; rintro e w1 ⟨rfl, hd⟩; have HD := Aside0.mk hd; clear hd)
        go_ret
        exact ⟨rfl, (below_alloc (Below.refl _ _) _).trans (HD.out.below.mono (by simp))⟩
      | false =>
        have hsum : l0.length + l1.length ≤ 1000000 := hr2 rfl
        have hN : l0.length ≤ 1000000 := by omega
        have hM : l1.length ≤ 1000000 := by omega
        clear hr2
        have hsum2 : ¬ ((l0.length : Int) + (l1.length : Int) > 1048576) := by omega
        have hlv := lim_ev n
        have hL := fun w => impl_Limit.calls n _ w hlv.1
        have HL := Aside0.mk hL
        have hl2 := hlv.2.2
        clear hL hlv
        have hp1 : (0 : Int) ≤ (l0.length : Int) * (l1.length : Int) := Int.mul_nonneg (by omega) (by omega)
        have hp2 : (l0.length : Int) * (l1.length : Int) ≤ 1000000 * 1000000 := Int.mul_le_mul (by omega) (by omega) (by omega) (by omega)
        have hp3 : (l0.length : Int) * (l1.length : Int) ≤ 1000000000000 := by omega
        clear hp2
        by_cases hlim : (limOf n : Int) ≤ (l0.length : Int) + (l1.length : Int)
        · go_enter Try.func5, Try.ntmps5
          go_wp2_with (first
          | (go_at_call 7; refine HT.out.mono ?_; rintro e w1 ⟨rfl, hd⟩; have HB1 := Aside0.mk ((below_alloc (Below.refl W.heap.size W) _).trans (hd.below.mono (by simp))); clear hd)
          | (go_at_call 15; first
            | (refine (ob_at _ hM HU1.out (Kd.C_below H1.out HB2.out) hc1).mono ?_; rintro e w3 ⟨Ay, cy, rfl, hcy, hyC, hb⟩; have HYC := Aside0.mk hyC; have HCY := Aside0.mk hcy; have HB3 := Aside0.mk (HB2.out.trans (hb.mono HB2.out.size)); have HXC3 := Aside0.mk (Kd.C_below HXC.out hb); clear hcy hyC hb)
            | (refine (ob_at _ hN HU0.out (Kd.C_below H0.out HB1.out) hc0).mono ?_; rintro e w2 ⟨Ax, cx, rfl, hcx, hxC, hb⟩; have HXC := Aside0.mk hxC; have HCX := Aside0.mk hcx; have HB2 := Aside0.mk (HB1.out.trans (hb.mono HB1.out.size)); clear hcx hxC hb))
          | (go_at_call 13; refine (implBackward_calls _ A0 A1 c0 c1 l0 l1 (Kd.C_below H0.out HB3.out) hc0 (Kd.C_below H1.out HB3.out) hc1 hN hM n).mono ?_; rintro e w4 ⟨d, v, l, rfl, hd, hv, hb, ha⟩; obtain ⟨Ad, cd, rfl, hcd, hdC⟩ := Kd.R_reads hd; have HKA := Aside0.mk (kept_at w4 hN hM ha (Kd.C_below HXC3.out hb) HCX.out (Kd.C_below HYC.out hb) HCY.out hdC hcd); have HA := Aside0.mk ha; have HX4 := Aside0.mk (Kd.C_below HXC3.out hb); have HY4 := Aside0.mk (Kd.C_below HYC.out hb); have HB4 := Aside0.mk (HB3.out.trans (hb.mono HB3.out.size)); clear hd hv hb ha hdC hcd)
          | (go_at_call 16; refine HKA.out.mono ?_; rintro e w5 ⟨rfl, hb⟩; have HX5 := Aside0.mk (Kd.C_below HX4.out hb); have HY5 := Aside0.mk (Kd.C_below HY4.out hb); have HB5 := Aside0.mk (HB4.out.trans (hb.mono HB4.out.size)); clear hb)
          | (go_at_call 17; refine (HL.out _).mono ?_; rintro e w6 ⟨rfl, hd⟩; have HX6 := Aside0.mk (Kd.C_below HX5.out hd.below); have HY6 := Aside0.mk (Kd.C_below HY5.out hd.below); have HB6 := Aside0.mk (HB5.out.trans (hd.below.mono HB5.out.size)); clear hd)
          | (go_at_call 18; refine (longest_at _ hN hM HX6.out HCX.out HY6.out HCY.out).mono ?_; rintro e w7 ⟨rfl, hb⟩; have HB7 := Aside0.mk (HB6.out.trans (hb.mono HB6.out.size)); clear hb))
          go_ret
          exact ⟨rfl, HB6.out⟩
        · by_cases hpr : (l0.length : Int) * (l1.length : Int) > 250000
          · go_enter Try.func5, Try.ntmps5
            go_wp2_with (first
          | (go_at_call 7; refine HT.out.mono ?_; rintro e w1 ⟨rfl, hd⟩; have HB1 := Aside0.mk ((below_alloc (Below.refl W.heap.size W) _).trans (hd.below.mono (by simp))); clear hd)
          | (go_at_call 15; first
            | (refine (ob_at _ hM HU1.out (Kd.C_below H1.out HB2.out) hc1).mono ?_; rintro e w3 ⟨Ay, cy, rfl, hcy, hyC, hb⟩; have HYC := Aside0.mk hyC; have HCY := Aside0.mk hcy; have HB3 := Aside0.mk (HB2.out.trans (hb.mono HB2.out.size)); have HXC3 := Aside0.mk (Kd.C_below HXC.out hb); clear hcy hyC hb)
            | (refine (ob_at _ hN HU0.out (Kd.C_below H0.out HB1.out) hc0).mono ?_; rintro e w2 ⟨Ax, cx, rfl, hcx, hxC, hb⟩; have HXC := Aside0.mk hxC; have HCX := Aside0.mk hcx; have HB2 := Aside0.mk (HB1.out.trans (hb.mono HB1.out.size)); clear hcx hxC hb))
          | (go_at_call 13; refine (implBackward_calls _ A0 A1 c0 c1 l0 l1 (Kd.C_below H0.out HB3.out) hc0 (Kd.C_below H1.out HB3.out) hc1 hN hM n).mono ?_; rintro e w4 ⟨d, v, l, rfl, hd, hv, hb, ha⟩; obtain ⟨Ad, cd, rfl, hcd, hdC⟩ := Kd.R_reads hd; have HKA := Aside0.mk (kept_at w4 hN hM ha (Kd.C_below HXC3.out hb) HCX.out (Kd.C_below HYC.out hb) HCY.out hdC hcd); have HA := Aside0.mk ha; have HX4 := Aside0.mk (Kd.C_below HXC3.out hb); have HY4 := Aside0.mk (Kd.C_below HYC.out hb); have HB4 := Aside0.mk (HB3.out.trans (hb.mono HB3.out.size)); clear hd hv hb ha hdC hcd)
          | (go_at_call 16; refine HKA.out.mono ?_; rintro e w5 ⟨rfl, hb⟩; have HX5 := Aside0.mk (Kd.C_below HX4.out hb); have HY5 := Aside0.mk (Kd.C_below HY4.out hb); have HB5 := Aside0.mk (HB4.out.trans (hb.mono HB4.out.size)); clear hb)
          | (go_at_call 17; refine (HL.out _).mono ?_; rintro e w6 ⟨rfl, hd⟩; have HX6 := Aside0.mk (Kd.C_below HX5.out hd.below); have HY6 := Aside0.mk (Kd.C_below HY5.out hd.below); have HB6 := Aside0.mk (HB5.out.trans (hd.below.mono HB5.out.size)); clear hd)
          | (go_at_call 18; refine (longest_at _ hN hM HX6.out HCX.out HY6.out HCY.out).mono ?_; rintro e w7 ⟨rfl, hb⟩; have HB7 := Aside0.mk (HB6.out.trans (hb.mono HB6.out.size)); clear hb))
            go_ret
            exact ⟨rfl, HB6.out⟩
          · go_enter Try.func5, Try.ntmps5
            have HLIM := Lib.hid hlim
            go_wp2_with (first
          | (go_at_call 7; refine HT.out.mono ?_; rintro e w1 ⟨rfl, hd⟩; have HB1 := Aside0.mk ((below_alloc (Below.refl W.heap.size W) _).trans (hd.below.mono (by simp))); clear hd)
          | (go_at_call 15; first
            | (refine (ob_at _ hM HU1.out (Kd.C_below H1.out HB2.out) hc1).mono ?_; rintro e w3 ⟨Ay, cy, rfl, hcy, hyC, hb⟩; have HYC := Aside0.mk hyC; have HCY := Aside0.mk hcy; have HB3 := Aside0.mk (HB2.out.trans (hb.mono HB2.out.size)); have HXC3 := Aside0.mk (Kd.C_below HXC.out hb); clear hcy hyC hb)
            | (refine (ob_at _ hN HU0.out (Kd.C_below H0.out HB1.out) hc0).mono ?_; rintro e w2 ⟨Ax, cx, rfl, hcx, hxC, hb⟩; have HXC := Aside0.mk hxC; have HCX := Aside0.mk hcx; have HB2 := Aside0.mk (HB1.out.trans (hb.mono HB1.out.size)); clear hcx hxC hb))
          | (go_at_call 13; refine (implBackward_calls _ A0 A1 c0 c1 l0 l1 (Kd.C_below H0.out HB3.out) hc0 (Kd.C_below H1.out HB3.out) hc1 hN hM n).mono ?_; rintro e w4 ⟨d, v, l, rfl, hd, hv, hb, ha⟩; obtain ⟨Ad, cd, rfl, hcd, hdC⟩ := Kd.R_reads hd; have HKA := Aside0.mk (kept_at w4 hN hM ha (Kd.C_below HXC3.out hb) HCX.out (Kd.C_below HYC.out hb) HCY.out hdC hcd); have HA := Aside0.mk ha; have HX4 := Aside0.mk (Kd.C_below HXC3.out hb); have HY4 := Aside0.mk (Kd.C_below HYC.out hb); have HB4 := Aside0.mk (HB3.out.trans (hb.mono HB3.out.size)); clear hd hv hb ha hdC hcd)
          | (go_at_call 16; refine HKA.out.mono ?_; rintro e w5 ⟨rfl, hb⟩; have HX5 := Aside0.mk (Kd.C_below HX4.out hb); have HY5 := Aside0.mk (Kd.C_below HY4.out hb); have HB5 := Aside0.mk (HB4.out.trans (hb.mono HB4.out.size)); clear hb)
          | (go_at_call 17; refine (HL.out _).mono ?_; rintro e w6 ⟨rfl, hd⟩; have HX6 := Aside0.mk (Kd.C_below HX5.out hd.below); have HY6 := Aside0.mk (Kd.C_below HY5.out hd.below); have HB6 := Aside0.mk (HB5.out.trans (hd.below.mono HB5.out.size)); clear hd)
          | (go_at_call 18; refine (longest_at _ hN hM HX6.out HCX.out HY6.out HCY.out).mono ?_; rintro e w7 ⟨rfl, hb⟩; have HB7 := Aside0.mk (HB6.out.trans (hb.mono HB6.out.size)); clear hb))
            go_ret
            refine ⟨?_, HB7.out⟩
            have ht : total l = (lc (Eof l0 l1) l0.length l1.length : Int) := ans_longest HA.out HLIM.out
            rw [ht]
            simp
end Go.Proofs.Ytonajgipkpnpoaa.QFnBackwardLead
