/- The reader's span, header, line, ended: after the kit's printed text. -/
import Derived.Test.YtonajgipkpnpoaaGreatDoorC10
namespace Go.Proofs.YtonajgipkpnpoaaGreatDoor.Rd
open Go.RowKit Go.Proofs.YtonajgipkpnpoaaGreatDoorW.PrintWords Go.Proofs.YtonajgipkpnpoaaGreatDoorW.PrintLast Go.Proofs.YtonajgipkpnpoaaGreatDoorW.PrintMore
set_option linter.unusedVariables false
set_option linter.unusedSimpArgs false
def spec_reader_span.f (k : Nat) (s0_0 : ByteArray) (s0_1 : Int) (s0_2 : Bool) (s0_3 : Pin) (s0_4 : Int) (s0_5 : Pin) : Option (Int × Int × ByteArray × Int × Bool × Int) := (spec_reader_number.f k s0_0 s0_1 s0_2 s0_3 s0_4 s0_5).bind fun bt111 => (if bt111.2.2.1 < (bt111.2.1.size : Int) then (if 0 ≤ bt111.2.2.1 then (if (bt bt111.2.1 bt111.2.2.1) = 44 then ((spec_reader_number.f k bt111.2.1 (wrap64 (bt111.2.2.1 + 1)) bt111.2.2.2.1 s0_3 bt111.2.2.2.2 s0_5).bind fun bt116 => (some (bt111.1, bt116.1, bt116.2.1, bt116.2.2.1, bt116.2.2.2.1, bt116.2.2.2.2))) else (some (bt111.1, 1, bt111.2.1, bt111.2.2.1, bt111.2.2.2.1, bt111.2.2.2.2))) else (none)) else (some (bt111.1, 1, bt111.2.1, bt111.2.2.1, bt111.2.2.2.1, bt111.2.2.2.2)))
set_option maxHeartbeats 8000000 in
set_option maxRecDepth 100000 in
theorem spec_reader_span.calls (k : Nat) (g : Nat) (s0_0 : ByteArray) (s0_1 : Int) (s0_2 : Bool) (s0_3 : Pin) (s0_4 : Int) (s0_5 : Pin) (r1 : Int) (r2 : Int) (r3 : ByteArray) (r4 : Int) (r5 : Bool) (r6 : Int) (w0 w : World) (hI : IsS43 w0 w g s0_0 s0_1 s0_2 s0_3 s0_4 s0_5) (hB : Below w0.heap.size w0 w) (h : spec_reader_span.f k s0_0 s0_1 s0_2 s0_3 s0_4 s0_5 = some (r1, r2, r3, r4, r5, r6)) :
    Calls Tryz.prog 39 #[.pointer (some ⟨g, 0, none⟩)] w fun e w' => e = .returned (.tuple #[.int .i64 r1, .int .i64 r2]) ∧ IsS43 w0 w' g r3 r4 r5 s0_3 r6 s0_5 ∧ Below w0.heap.size w0 w' ∧ KeepBut w w' g none := by
  have HI0 := Aside0.mk hI
  have HK := Aside0.mk (KeepBut.refl w g none)
  have HL := Aside0.mk hB.size
  clear hI
  have HW0 := Aside0.mk hB.size
  have HB := Aside0.mk hB
  clear hB
  have H : ((spec_reader_number.f k s0_0 s0_1 s0_2 s0_3 s0_4 s0_5).bind fun bt111 => (if bt111.2.2.1 < (bt111.2.1.size : Int) then (if 0 ≤ bt111.2.2.1 then (if (bt bt111.2.1 bt111.2.2.1) = 44 then ((spec_reader_number.f k bt111.2.1 (wrap64 (bt111.2.2.1 + 1)) bt111.2.2.2.1 s0_3 bt111.2.2.2.2 s0_5).bind fun bt116 => (some (bt111.1, bt116.1, bt116.2.1, bt116.2.2.1, bt116.2.2.2.1, bt116.2.2.2.2))) else (some (bt111.1, 1, bt111.2.1, bt111.2.2.1, bt111.2.2.2.1, bt111.2.2.2.2))) else (none)) else (some (bt111.1, 1, bt111.2.1, bt111.2.2.1, bt111.2.2.2.1, bt111.2.2.2.2)))) = some (r1, r2, r3, r4, r5, r6) := h
  clear h
  replace H := Option.bind_eq_some_iff.mp H
  obtain ⟨⟨t111, t112, t113, t114, t115⟩, A20, H⟩ := H
  replace H : (if t113 < (t112.size : Int) then (if 0 ≤ t113 then (if (bt t112 t113) = 44 then ((spec_reader_number.f k t112 (wrap64 (t113 + 1)) t114 s0_3 t115 s0_5).bind fun bt116 => (some (t111, bt116.1, bt116.2.1, bt116.2.2.1, bt116.2.2.2.1, bt116.2.2.2.2))) else (some (t111, 1, t112, t113, t114, t115))) else (none)) else (some (t111, 1, t112, t113, t114, t115))) = some (r1, r2, r3, r4, r5, r6) := H
  have A2 := Aside0.mk A20
  clear A20
  by_cases c3 : t113 < (t112.size : Int)
  · rw [if_pos c3] at H
    have c3b0 : decide (t113 < (t112.size : Int)) = true := decide_eq_true c3
    clear c3
    by_cases c4 : 0 ≤ t113
    · rw [if_pos c4] at H
      have c4b0 : decide (0 ≤ t113) = true := decide_eq_true c4
      clear c4
      by_cases c6 : (bt t112 t113) = 44
      · rw [if_pos c6] at H
        have c6b0 : ((bt t112 t113) == 44) = true := beq_iff_eq.mpr c6
        have c6b1 : ((bt t112 t113) != 44) = false := bne_eq_false_iff_eq.mpr c6
        clear c6
        replace H := Option.bind_eq_some_iff.mp H
        obtain ⟨⟨t116, t117, t118, t119, t120⟩, A70, H⟩ := H
        replace H : (some (t111, t116, t117, t118, t119, t120)) = some (r1, r2, r3, r4, r5, r6) := H
        have A7 := Aside0.mk A70
        clear A70
        simp only [Option.some.injEq, Prod.mk.injEq] at H
        obtain ⟨rfl, rfl, rfl, rfl, rfl, rfl⟩ := H
        go_enter Tryz.func39, Tryz.ntmps39
        go_wp2_with (first | (go_at_call 54; (with_reducible refine (spec_reader_number.calls k g s0_0 s0_1 s0_2 s0_3 s0_4 s0_5 t111 t112 t113 t114 t115 w0 _ ?side1 ?side2 A2.out).mono ?_); (case side1 => repeat (first | (with_reducible first | exact HI0.out | apply IsS43.alloc | apply IsS43.drewN | apply IsS43.drew | apply IsS43.set_0 | apply IsS43.set_1 | apply IsS43.set_2 | apply IsS43.set_4) | exact HI0.out)); (case side2 => repeat (first | (with_reducible first | exact HB.out | apply below_alloc | apply pw_below_drewN | apply below_drew1 | refine below_set ?_ (IsS43.ge HI0.out)) | exact HB.out)); rintro e w8 ⟨rfl, hi, hb, hk⟩; have n0_ := Aside0.mk (KeepBut.trans (by repeat (first | (with_reducible first | exact HK.out | apply KeepBut.set_ | apply keep_drewN | apply keep_drew | apply keep_alloc) | exact HK.out)) hk (.inl rfl)); have n1_ := Aside0.mk (hb); have n2_ := Aside0.mk (hi); clear HK; clear HB; clear HI0; have HK := n0_; have HB := n1_; have HI0 := n2_; clear n0_ n1_ n2_; (try clear hb); (try clear hb2); (try clear hk); (try clear hi); obtain ⟨ASz9_3, cSz9_3, ASz9_5, cSz9_5, HGz9, hgz9, HSz9_3, HSz9_5⟩ := HI0.out; have hcz9_0 := cellS43_0 HGz9; have hcz9_1 := cellS43_1 HGz9; have hcz9_2 := cellS43_2 HGz9; have hcz9_3 := cellS43_3 HGz9; have hcz9_4 := cellS43_4 HGz9; have hcz9_5 := cellS43_5 HGz9; have hfz9_0 := blk_frozen HGz9 0; have hfz9_1 := blk_frozen HGz9 1; have hfz9_2 := blk_frozen HGz9 2; have hfz9_4 := blk_frozen HGz9 4; clear HGz9 hgz9; have p5 : 0 ≤ (t113 : Int) := of_decide_eq_true (by first | (with_reducible assumption) | assumption); have q5 : t113 < (t112.size : Int) := of_decide_eq_true (by first | (with_reducible assumption) | assumption); have hx5 := bt_at t112 t113; replace p5 := eq_true p5; replace q5 := eq_true q5) | (go_at_call 54; (with_reducible refine (spec_reader_number.calls k g t112 (wrap64 (t113 + 1)) t114 s0_3 t115 s0_5 t116 t117 t118 t119 t120 w0 _ ?side1 ?side2 A7.out).mono ?_); (case side1 => repeat (first | (with_reducible first | exact HI0.out | apply IsS43.alloc | apply IsS43.drewN | apply IsS43.drew | apply IsS43.set_0 | apply IsS43.set_1 | apply IsS43.set_2 | apply IsS43.set_4) | exact HI0.out)); (case side2 => repeat (first | (with_reducible first | exact HB.out | apply below_alloc | apply pw_below_drewN | apply below_drew1 | refine below_set ?_ (IsS43.ge HI0.out)) | exact HB.out)); rintro e w10 ⟨rfl, hi, hb, hk⟩; have n0_ := Aside0.mk (KeepBut.trans (by repeat (first | (with_reducible first | exact HK.out | apply KeepBut.set_ | apply keep_drewN | apply keep_drew | apply keep_alloc) | exact HK.out)) hk (.inl rfl)); have n1_ := Aside0.mk (hb); have n2_ := Aside0.mk (hi); clear HK; clear HB; clear HI0; have HK := n0_; have HB := n1_; have HI0 := n2_; clear n0_ n1_ n2_; (try clear hb); (try clear hb2); (try clear hk); (try clear hi)))
        repeat (go_quiet (first | (go_at_call 54; (with_reducible refine (spec_reader_number.calls k g s0_0 s0_1 s0_2 s0_3 s0_4 s0_5 t111 t112 t113 t114 t115 w0 _ ?side1 ?side2 A2.out).mono ?_); (case side1 => repeat (first | (with_reducible first | exact HI0.out | apply IsS43.alloc | apply IsS43.drewN | apply IsS43.drew | apply IsS43.set_0 | apply IsS43.set_1 | apply IsS43.set_2 | apply IsS43.set_4) | exact HI0.out)); (case side2 => repeat (first | (with_reducible first | exact HB.out | apply below_alloc | apply pw_below_drewN | apply below_drew1 | refine below_set ?_ (IsS43.ge HI0.out)) | exact HB.out)); rintro e w8 ⟨rfl, hi, hb, hk⟩; have n0_ := Aside0.mk (KeepBut.trans (by repeat (first | (with_reducible first | exact HK.out | apply KeepBut.set_ | apply keep_drewN | apply keep_drew | apply keep_alloc) | exact HK.out)) hk (.inl rfl)); have n1_ := Aside0.mk (hb); have n2_ := Aside0.mk (hi); clear HK; clear HB; clear HI0; have HK := n0_; have HB := n1_; have HI0 := n2_; clear n0_ n1_ n2_; (try clear hb); (try clear hb2); (try clear hk); (try clear hi); obtain ⟨ASz9_3, cSz9_3, ASz9_5, cSz9_5, HGz9, hgz9, HSz9_3, HSz9_5⟩ := HI0.out; have hcz9_0 := cellS43_0 HGz9; have hcz9_1 := cellS43_1 HGz9; have hcz9_2 := cellS43_2 HGz9; have hcz9_3 := cellS43_3 HGz9; have hcz9_4 := cellS43_4 HGz9; have hcz9_5 := cellS43_5 HGz9; have hfz9_0 := blk_frozen HGz9 0; have hfz9_1 := blk_frozen HGz9 1; have hfz9_2 := blk_frozen HGz9 2; have hfz9_4 := blk_frozen HGz9 4; clear HGz9 hgz9; have p5 : 0 ≤ (t113 : Int) := of_decide_eq_true (by first | (with_reducible assumption) | assumption); have q5 : t113 < (t112.size : Int) := of_decide_eq_true (by first | (with_reducible assumption) | assumption); have hx5 := bt_at t112 t113; replace p5 := eq_true p5; replace q5 := eq_true q5) | (go_at_call 54; (with_reducible refine (spec_reader_number.calls k g t112 (wrap64 (t113 + 1)) t114 s0_3 t115 s0_5 t116 t117 t118 t119 t120 w0 _ ?side1 ?side2 A7.out).mono ?_); (case side1 => repeat (first | (with_reducible first | exact HI0.out | apply IsS43.alloc | apply IsS43.drewN | apply IsS43.drew | apply IsS43.set_0 | apply IsS43.set_1 | apply IsS43.set_2 | apply IsS43.set_4) | exact HI0.out)); (case side2 => repeat (first | (with_reducible first | exact HB.out | apply below_alloc | apply pw_below_drewN | apply below_drew1 | refine below_set ?_ (IsS43.ge HI0.out)) | exact HB.out)); rintro e w10 ⟨rfl, hi, hb, hk⟩; have n0_ := Aside0.mk (KeepBut.trans (by repeat (first | (with_reducible first | exact HK.out | apply KeepBut.set_ | apply keep_drewN | apply keep_drew | apply keep_alloc) | exact HK.out)) hk (.inl rfl)); have n1_ := Aside0.mk (hb); have n2_ := Aside0.mk (hi); clear HK; clear HB; clear HI0; have HK := n0_; have HB := n1_; have HI0 := n2_; clear n0_ n1_ n2_; (try clear hb); (try clear hb2); (try clear hk); (try clear hi))); try go_wp2_with (first | (go_at_call 54; (with_reducible refine (spec_reader_number.calls k g s0_0 s0_1 s0_2 s0_3 s0_4 s0_5 t111 t112 t113 t114 t115 w0 _ ?side1 ?side2 A2.out).mono ?_); (case side1 => repeat (first | (with_reducible first | exact HI0.out | apply IsS43.alloc | apply IsS43.drewN | apply IsS43.drew | apply IsS43.set_0 | apply IsS43.set_1 | apply IsS43.set_2 | apply IsS43.set_4) | exact HI0.out)); (case side2 => repeat (first | (with_reducible first | exact HB.out | apply below_alloc | apply pw_below_drewN | apply below_drew1 | refine below_set ?_ (IsS43.ge HI0.out)) | exact HB.out)); rintro e w8 ⟨rfl, hi, hb, hk⟩; have n0_ := Aside0.mk (KeepBut.trans (by repeat (first | (with_reducible first | exact HK.out | apply KeepBut.set_ | apply keep_drewN | apply keep_drew | apply keep_alloc) | exact HK.out)) hk (.inl rfl)); have n1_ := Aside0.mk (hb); have n2_ := Aside0.mk (hi); clear HK; clear HB; clear HI0; have HK := n0_; have HB := n1_; have HI0 := n2_; clear n0_ n1_ n2_; (try clear hb); (try clear hb2); (try clear hk); (try clear hi); obtain ⟨ASz9_3, cSz9_3, ASz9_5, cSz9_5, HGz9, hgz9, HSz9_3, HSz9_5⟩ := HI0.out; have hcz9_0 := cellS43_0 HGz9; have hcz9_1 := cellS43_1 HGz9; have hcz9_2 := cellS43_2 HGz9; have hcz9_3 := cellS43_3 HGz9; have hcz9_4 := cellS43_4 HGz9; have hcz9_5 := cellS43_5 HGz9; have hfz9_0 := blk_frozen HGz9 0; have hfz9_1 := blk_frozen HGz9 1; have hfz9_2 := blk_frozen HGz9 2; have hfz9_4 := blk_frozen HGz9 4; clear HGz9 hgz9; have p5 : 0 ≤ (t113 : Int) := of_decide_eq_true (by first | (with_reducible assumption) | assumption); have q5 : t113 < (t112.size : Int) := of_decide_eq_true (by first | (with_reducible assumption) | assumption); have hx5 := bt_at t112 t113; replace p5 := eq_true p5; replace q5 := eq_true q5) | (go_at_call 54; (with_reducible refine (spec_reader_number.calls k g t112 (wrap64 (t113 + 1)) t114 s0_3 t115 s0_5 t116 t117 t118 t119 t120 w0 _ ?side1 ?side2 A7.out).mono ?_); (case side1 => repeat (first | (with_reducible first | exact HI0.out | apply IsS43.alloc | apply IsS43.drewN | apply IsS43.drew | apply IsS43.set_0 | apply IsS43.set_1 | apply IsS43.set_2 | apply IsS43.set_4) | exact HI0.out)); (case side2 => repeat (first | (with_reducible first | exact HB.out | apply below_alloc | apply pw_below_drewN | apply below_drew1 | refine below_set ?_ (IsS43.ge HI0.out)) | exact HB.out)); rintro e w10 ⟨rfl, hi, hb, hk⟩; have n0_ := Aside0.mk (KeepBut.trans (by repeat (first | (with_reducible first | exact HK.out | apply KeepBut.set_ | apply keep_drewN | apply keep_drew | apply keep_alloc) | exact HK.out)) hk (.inl rfl)); have n1_ := Aside0.mk (hb); have n2_ := Aside0.mk (hi); clear HK; clear HB; clear HI0; have HK := n0_; have HB := n1_; have HI0 := n2_; clear n0_ n1_ n2_; (try clear hb); (try clear hb2); (try clear hk); (try clear hi))))
        go_ret2
        exact ⟨by first | rfl | (simp [errW_none, errW_some] <;> rfl) | (simp [*, errW_none, errW_some] <;> rfl), by repeat (first | (with_reducible first | exact HI0.out | apply IsS43.alloc | apply IsS43.drewN | apply IsS43.drew | apply IsS43.set_0 | apply IsS43.set_1 | apply IsS43.set_2 | apply IsS43.set_4) | exact HI0.out), by repeat (first | (with_reducible first | exact HB.out | apply below_alloc | apply pw_below_drewN | apply below_drew1 | refine below_set ?_ (IsS43.ge HI0.out)) | exact HB.out), by repeat (first | (with_reducible first | exact HK.out | apply KeepBut.set_ | apply keep_drewN | apply keep_drew | apply keep_alloc) | exact HK.out)⟩
      · rw [if_neg c6] at H
        have c6b0 : ((bt t112 t113) == 44) = false := beq_eq_false_iff_ne.mpr c6
        have c6b1 : ((bt t112 t113) != 44) = true := bne_iff_ne.mpr c6
        simp only [Option.some.injEq, Prod.mk.injEq] at H
        obtain ⟨rfl, rfl, rfl, rfl, rfl, rfl⟩ := H
        go_enter Tryz.func39, Tryz.ntmps39
        go_wp2_with (first | (go_at_call 54; (with_reducible refine (spec_reader_number.calls k g s0_0 s0_1 s0_2 s0_3 s0_4 s0_5 t111 t112 t113 t114 t115 w0 _ ?side1 ?side2 A2.out).mono ?_); (case side1 => repeat (first | (with_reducible first | exact HI0.out | apply IsS43.alloc | apply IsS43.drewN | apply IsS43.drew | apply IsS43.set_0 | apply IsS43.set_1 | apply IsS43.set_2 | apply IsS43.set_4) | exact HI0.out)); (case side2 => repeat (first | (with_reducible first | exact HB.out | apply below_alloc | apply pw_below_drewN | apply below_drew1 | refine below_set ?_ (IsS43.ge HI0.out)) | exact HB.out)); rintro e w11 ⟨rfl, hi, hb, hk⟩; have n0_ := Aside0.mk (KeepBut.trans (by repeat (first | (with_reducible first | exact HK.out | apply KeepBut.set_ | apply keep_drewN | apply keep_drew | apply keep_alloc) | exact HK.out)) hk (.inl rfl)); have n1_ := Aside0.mk (hb); have n2_ := Aside0.mk (hi); clear HK; clear HB; clear HI0; have HK := n0_; have HB := n1_; have HI0 := n2_; clear n0_ n1_ n2_; (try clear hb); (try clear hb2); (try clear hk); (try clear hi); obtain ⟨ASz12_3, cSz12_3, ASz12_5, cSz12_5, HGz12, hgz12, HSz12_3, HSz12_5⟩ := HI0.out; have hcz12_0 := cellS43_0 HGz12; have hcz12_1 := cellS43_1 HGz12; have hcz12_2 := cellS43_2 HGz12; have hcz12_3 := cellS43_3 HGz12; have hcz12_4 := cellS43_4 HGz12; have hcz12_5 := cellS43_5 HGz12; have hfz12_0 := blk_frozen HGz12 0; have hfz12_1 := blk_frozen HGz12 1; have hfz12_2 := blk_frozen HGz12 2; have hfz12_4 := blk_frozen HGz12 4; clear HGz12 hgz12; have p5 : 0 ≤ (t113 : Int) := of_decide_eq_true (by first | (with_reducible assumption) | assumption); have q5 : t113 < (t112.size : Int) := of_decide_eq_true (by first | (with_reducible assumption) | assumption); have hx5 := bt_at t112 t113; replace p5 := eq_true p5; replace q5 := eq_true q5))
        repeat (go_quiet (first | (go_at_call 54; (with_reducible refine (spec_reader_number.calls k g s0_0 s0_1 s0_2 s0_3 s0_4 s0_5 t111 t112 t113 t114 t115 w0 _ ?side1 ?side2 A2.out).mono ?_); (case side1 => repeat (first | (with_reducible first | exact HI0.out | apply IsS43.alloc | apply IsS43.drewN | apply IsS43.drew | apply IsS43.set_0 | apply IsS43.set_1 | apply IsS43.set_2 | apply IsS43.set_4) | exact HI0.out)); (case side2 => repeat (first | (with_reducible first | exact HB.out | apply below_alloc | apply pw_below_drewN | apply below_drew1 | refine below_set ?_ (IsS43.ge HI0.out)) | exact HB.out)); rintro e w11 ⟨rfl, hi, hb, hk⟩; have n0_ := Aside0.mk (KeepBut.trans (by repeat (first | (with_reducible first | exact HK.out | apply KeepBut.set_ | apply keep_drewN | apply keep_drew | apply keep_alloc) | exact HK.out)) hk (.inl rfl)); have n1_ := Aside0.mk (hb); have n2_ := Aside0.mk (hi); clear HK; clear HB; clear HI0; have HK := n0_; have HB := n1_; have HI0 := n2_; clear n0_ n1_ n2_; (try clear hb); (try clear hb2); (try clear hk); (try clear hi); obtain ⟨ASz12_3, cSz12_3, ASz12_5, cSz12_5, HGz12, hgz12, HSz12_3, HSz12_5⟩ := HI0.out; have hcz12_0 := cellS43_0 HGz12; have hcz12_1 := cellS43_1 HGz12; have hcz12_2 := cellS43_2 HGz12; have hcz12_3 := cellS43_3 HGz12; have hcz12_4 := cellS43_4 HGz12; have hcz12_5 := cellS43_5 HGz12; have hfz12_0 := blk_frozen HGz12 0; have hfz12_1 := blk_frozen HGz12 1; have hfz12_2 := blk_frozen HGz12 2; have hfz12_4 := blk_frozen HGz12 4; clear HGz12 hgz12; have p5 : 0 ≤ (t113 : Int) := of_decide_eq_true (by first | (with_reducible assumption) | assumption); have q5 : t113 < (t112.size : Int) := of_decide_eq_true (by first | (with_reducible assumption) | assumption); have hx5 := bt_at t112 t113; replace p5 := eq_true p5; replace q5 := eq_true q5)); try go_wp2_with (first | (go_at_call 54; (with_reducible refine (spec_reader_number.calls k g s0_0 s0_1 s0_2 s0_3 s0_4 s0_5 t111 t112 t113 t114 t115 w0 _ ?side1 ?side2 A2.out).mono ?_); (case side1 => repeat (first | (with_reducible first | exact HI0.out | apply IsS43.alloc | apply IsS43.drewN | apply IsS43.drew | apply IsS43.set_0 | apply IsS43.set_1 | apply IsS43.set_2 | apply IsS43.set_4) | exact HI0.out)); (case side2 => repeat (first | (with_reducible first | exact HB.out | apply below_alloc | apply pw_below_drewN | apply below_drew1 | refine below_set ?_ (IsS43.ge HI0.out)) | exact HB.out)); rintro e w11 ⟨rfl, hi, hb, hk⟩; have n0_ := Aside0.mk (KeepBut.trans (by repeat (first | (with_reducible first | exact HK.out | apply KeepBut.set_ | apply keep_drewN | apply keep_drew | apply keep_alloc) | exact HK.out)) hk (.inl rfl)); have n1_ := Aside0.mk (hb); have n2_ := Aside0.mk (hi); clear HK; clear HB; clear HI0; have HK := n0_; have HB := n1_; have HI0 := n2_; clear n0_ n1_ n2_; (try clear hb); (try clear hb2); (try clear hk); (try clear hi); obtain ⟨ASz12_3, cSz12_3, ASz12_5, cSz12_5, HGz12, hgz12, HSz12_3, HSz12_5⟩ := HI0.out; have hcz12_0 := cellS43_0 HGz12; have hcz12_1 := cellS43_1 HGz12; have hcz12_2 := cellS43_2 HGz12; have hcz12_3 := cellS43_3 HGz12; have hcz12_4 := cellS43_4 HGz12; have hcz12_5 := cellS43_5 HGz12; have hfz12_0 := blk_frozen HGz12 0; have hfz12_1 := blk_frozen HGz12 1; have hfz12_2 := blk_frozen HGz12 2; have hfz12_4 := blk_frozen HGz12 4; clear HGz12 hgz12; have p5 : 0 ≤ (t113 : Int) := of_decide_eq_true (by first | (with_reducible assumption) | assumption); have q5 : t113 < (t112.size : Int) := of_decide_eq_true (by first | (with_reducible assumption) | assumption); have hx5 := bt_at t112 t113; replace p5 := eq_true p5; replace q5 := eq_true q5)))
        go_ret2
        exact ⟨by first | rfl | (simp [errW_none, errW_some] <;> rfl) | (simp [*, errW_none, errW_some] <;> rfl), by repeat (first | (with_reducible first | exact HI0.out | apply IsS43.alloc | apply IsS43.drewN | apply IsS43.drew | apply IsS43.set_0 | apply IsS43.set_1 | apply IsS43.set_2 | apply IsS43.set_4) | exact HI0.out), by repeat (first | (with_reducible first | exact HB.out | apply below_alloc | apply pw_below_drewN | apply below_drew1 | refine below_set ?_ (IsS43.ge HI0.out)) | exact HB.out), by repeat (first | (with_reducible first | exact HK.out | apply KeepBut.set_ | apply keep_drewN | apply keep_drew | apply keep_alloc) | exact HK.out)⟩
    · rw [if_neg c4] at H
      exact absurd H (by simp)
  · rw [if_neg c3] at H
    have c3b0 : decide (t113 < (t112.size : Int)) = false := decide_eq_false c3
    clear c3
    simp only [Option.some.injEq, Prod.mk.injEq] at H
    obtain ⟨rfl, rfl, rfl, rfl, rfl, rfl⟩ := H
    go_enter Tryz.func39, Tryz.ntmps39
    go_wp2_with (first | (go_at_call 54; (with_reducible refine (spec_reader_number.calls k g s0_0 s0_1 s0_2 s0_3 s0_4 s0_5 t111 t112 t113 t114 t115 w0 _ ?side1 ?side2 A2.out).mono ?_); (case side1 => repeat (first | (with_reducible first | exact HI0.out | apply IsS43.alloc | apply IsS43.drewN | apply IsS43.drew | apply IsS43.set_0 | apply IsS43.set_1 | apply IsS43.set_2 | apply IsS43.set_4) | exact HI0.out)); (case side2 => repeat (first | (with_reducible first | exact HB.out | apply below_alloc | apply pw_below_drewN | apply below_drew1 | refine below_set ?_ (IsS43.ge HI0.out)) | exact HB.out)); rintro e w13 ⟨rfl, hi, hb, hk⟩; have n0_ := Aside0.mk (KeepBut.trans (by repeat (first | (with_reducible first | exact HK.out | apply KeepBut.set_ | apply keep_drewN | apply keep_drew | apply keep_alloc) | exact HK.out)) hk (.inl rfl)); have n1_ := Aside0.mk (hb); have n2_ := Aside0.mk (hi); clear HK; clear HB; clear HI0; have HK := n0_; have HB := n1_; have HI0 := n2_; clear n0_ n1_ n2_; (try clear hb); (try clear hb2); (try clear hk); (try clear hi); obtain ⟨ASz14_3, cSz14_3, ASz14_5, cSz14_5, HGz14, hgz14, HSz14_3, HSz14_5⟩ := HI0.out; have hcz14_0 := cellS43_0 HGz14; have hcz14_1 := cellS43_1 HGz14; have hcz14_2 := cellS43_2 HGz14; have hcz14_3 := cellS43_3 HGz14; have hcz14_4 := cellS43_4 HGz14; have hcz14_5 := cellS43_5 HGz14; have hfz14_0 := blk_frozen HGz14 0; have hfz14_1 := blk_frozen HGz14 1; have hfz14_2 := blk_frozen HGz14 2; have hfz14_4 := blk_frozen HGz14 4; clear HGz14 hgz14))
    repeat (go_quiet (first | (go_at_call 54; (with_reducible refine (spec_reader_number.calls k g s0_0 s0_1 s0_2 s0_3 s0_4 s0_5 t111 t112 t113 t114 t115 w0 _ ?side1 ?side2 A2.out).mono ?_); (case side1 => repeat (first | (with_reducible first | exact HI0.out | apply IsS43.alloc | apply IsS43.drewN | apply IsS43.drew | apply IsS43.set_0 | apply IsS43.set_1 | apply IsS43.set_2 | apply IsS43.set_4) | exact HI0.out)); (case side2 => repeat (first | (with_reducible first | exact HB.out | apply below_alloc | apply pw_below_drewN | apply below_drew1 | refine below_set ?_ (IsS43.ge HI0.out)) | exact HB.out)); rintro e w13 ⟨rfl, hi, hb, hk⟩; have n0_ := Aside0.mk (KeepBut.trans (by repeat (first | (with_reducible first | exact HK.out | apply KeepBut.set_ | apply keep_drewN | apply keep_drew | apply keep_alloc) | exact HK.out)) hk (.inl rfl)); have n1_ := Aside0.mk (hb); have n2_ := Aside0.mk (hi); clear HK; clear HB; clear HI0; have HK := n0_; have HB := n1_; have HI0 := n2_; clear n0_ n1_ n2_; (try clear hb); (try clear hb2); (try clear hk); (try clear hi); obtain ⟨ASz14_3, cSz14_3, ASz14_5, cSz14_5, HGz14, hgz14, HSz14_3, HSz14_5⟩ := HI0.out; have hcz14_0 := cellS43_0 HGz14; have hcz14_1 := cellS43_1 HGz14; have hcz14_2 := cellS43_2 HGz14; have hcz14_3 := cellS43_3 HGz14; have hcz14_4 := cellS43_4 HGz14; have hcz14_5 := cellS43_5 HGz14; have hfz14_0 := blk_frozen HGz14 0; have hfz14_1 := blk_frozen HGz14 1; have hfz14_2 := blk_frozen HGz14 2; have hfz14_4 := blk_frozen HGz14 4; clear HGz14 hgz14)); try go_wp2_with (first | (go_at_call 54; (with_reducible refine (spec_reader_number.calls k g s0_0 s0_1 s0_2 s0_3 s0_4 s0_5 t111 t112 t113 t114 t115 w0 _ ?side1 ?side2 A2.out).mono ?_); (case side1 => repeat (first | (with_reducible first | exact HI0.out | apply IsS43.alloc | apply IsS43.drewN | apply IsS43.drew | apply IsS43.set_0 | apply IsS43.set_1 | apply IsS43.set_2 | apply IsS43.set_4) | exact HI0.out)); (case side2 => repeat (first | (with_reducible first | exact HB.out | apply below_alloc | apply pw_below_drewN | apply below_drew1 | refine below_set ?_ (IsS43.ge HI0.out)) | exact HB.out)); rintro e w13 ⟨rfl, hi, hb, hk⟩; have n0_ := Aside0.mk (KeepBut.trans (by repeat (first | (with_reducible first | exact HK.out | apply KeepBut.set_ | apply keep_drewN | apply keep_drew | apply keep_alloc) | exact HK.out)) hk (.inl rfl)); have n1_ := Aside0.mk (hb); have n2_ := Aside0.mk (hi); clear HK; clear HB; clear HI0; have HK := n0_; have HB := n1_; have HI0 := n2_; clear n0_ n1_ n2_; (try clear hb); (try clear hb2); (try clear hk); (try clear hi); obtain ⟨ASz14_3, cSz14_3, ASz14_5, cSz14_5, HGz14, hgz14, HSz14_3, HSz14_5⟩ := HI0.out; have hcz14_0 := cellS43_0 HGz14; have hcz14_1 := cellS43_1 HGz14; have hcz14_2 := cellS43_2 HGz14; have hcz14_3 := cellS43_3 HGz14; have hcz14_4 := cellS43_4 HGz14; have hcz14_5 := cellS43_5 HGz14; have hfz14_0 := blk_frozen HGz14 0; have hfz14_1 := blk_frozen HGz14 1; have hfz14_2 := blk_frozen HGz14 2; have hfz14_4 := blk_frozen HGz14 4; clear HGz14 hgz14)))
    go_ret2
    exact ⟨by first | rfl | (simp [errW_none, errW_some] <;> rfl) | (simp [*, errW_none, errW_some] <;> rfl), by repeat (first | (with_reducible first | exact HI0.out | apply IsS43.alloc | apply IsS43.drewN | apply IsS43.drew | apply IsS43.set_0 | apply IsS43.set_1 | apply IsS43.set_2 | apply IsS43.set_4) | exact HI0.out), by repeat (first | (with_reducible first | exact HB.out | apply below_alloc | apply pw_below_drewN | apply below_drew1 | refine below_set ?_ (IsS43.ge HI0.out)) | exact HB.out), by repeat (first | (with_reducible first | exact HK.out | apply KeepBut.set_ | apply keep_drewN | apply keep_drew | apply keep_alloc) | exact HK.out)⟩
def spec_reader_header.f (k : Nat) (s0_0 : ByteArray) (s0_1 : Int) (s0_2 : Bool) (s0_3 : Pin) (s0_4 : Int) (s0_5 : Pin) : Option (Int × Int × Int × Int × Int × Int × ByteArray × Int × Bool × Int) := (spec_reader_take.f s0_0 s0_1 s0_2 s0_3 s0_4 s0_5 (⟨#[64, 64, 32, 45]⟩ : ByteArray)).bind fun bt123 => ((spec_reader_span.f k bt123.1 bt123.2.1 bt123.2.2.1 s0_3 bt123.2.2.2 s0_5).bind fun bt127 => ((spec_reader_take.f bt127.2.2.1 bt127.2.2.2.1 bt127.2.2.2.2.1 s0_3 bt127.2.2.2.2.2 s0_5 (⟨#[32, 43]⟩ : ByteArray)).bind fun bt133 => ((spec_reader_span.f k bt133.1 bt133.2.1 bt133.2.2.1 s0_3 bt133.2.2.2 s0_5).bind fun bt137 => ((spec_reader_take.f bt137.2.2.1 bt137.2.2.2.1 bt137.2.2.2.2.1 s0_3 bt137.2.2.2.2.2 s0_5 (⟨#[32, 64, 64, 10]⟩ : ByteArray)).bind fun bt143 => (some (bt127.1, bt127.2.1, bt137.1, bt137.2.1, 0, 0, bt143.1, bt143.2.1, bt143.2.2.1, bt143.2.2.2))))))
set_option maxHeartbeats 8000000 in
set_option maxRecDepth 100000 in
theorem spec_reader_header.calls (k : Nat) (g : Nat) (s0_0 : ByteArray) (s0_1 : Int) (s0_2 : Bool) (s0_3 : Pin) (s0_4 : Int) (s0_5 : Pin) (r1 : Int) (r2 : Int) (r3 : Int) (r4 : Int) (r5 : Int) (r6 : Int) (r7 : ByteArray) (r8 : Int) (r9 : Bool) (r10 : Int) (w0 w : World) (hI : IsS43 w0 w g s0_0 s0_1 s0_2 s0_3 s0_4 s0_5) (hB : Below w0.heap.size w0 w) (h : spec_reader_header.f k s0_0 s0_1 s0_2 s0_3 s0_4 s0_5 = some (r1, r2, r3, r4, r5, r6, r7, r8, r9, r10)) :
    Calls Tryz.prog 29 #[.pointer (some ⟨g, 0, none⟩)] w fun e w' => e = .returned (.agg #[.int .i64 r1, .int .i64 r2, .int .i64 r3, .int .i64 r4, .int .i64 r5, .int .i64 r6]) ∧ IsS43 w0 w' g r7 r8 r9 s0_3 r10 s0_5 ∧ Below w0.heap.size w0 w' ∧ KeepBut w w' g none := by
  have hu46 := Tryz.underlying46
  have HI0 := Aside0.mk hI
  have HK := Aside0.mk (KeepBut.refl w g none)
  have HL := Aside0.mk hB.size
  clear hI
  have HW0 := Aside0.mk hB.size
  have HB := Aside0.mk hB
  clear hB
  have H : ((spec_reader_take.f s0_0 s0_1 s0_2 s0_3 s0_4 s0_5 (⟨#[64, 64, 32, 45]⟩ : ByteArray)).bind fun bt123 => ((spec_reader_span.f k bt123.1 bt123.2.1 bt123.2.2.1 s0_3 bt123.2.2.2 s0_5).bind fun bt127 => ((spec_reader_take.f bt127.2.2.1 bt127.2.2.2.1 bt127.2.2.2.2.1 s0_3 bt127.2.2.2.2.2 s0_5 (⟨#[32, 43]⟩ : ByteArray)).bind fun bt133 => ((spec_reader_span.f k bt133.1 bt133.2.1 bt133.2.2.1 s0_3 bt133.2.2.2 s0_5).bind fun bt137 => ((spec_reader_take.f bt137.2.2.1 bt137.2.2.2.1 bt137.2.2.2.2.1 s0_3 bt137.2.2.2.2.2 s0_5 (⟨#[32, 64, 64, 10]⟩ : ByteArray)).bind fun bt143 => (some (bt127.1, bt127.2.1, bt137.1, bt137.2.1, 0, 0, bt143.1, bt143.2.1, bt143.2.2.1, bt143.2.2.2))))))) = some (r1, r2, r3, r4, r5, r6, r7, r8, r9, r10) := h
  clear h
  replace H := Option.bind_eq_some_iff.mp H
  obtain ⟨⟨t123, t124, t125, t126⟩, A20, H⟩ := H
  replace H : ((spec_reader_span.f k t123 t124 t125 s0_3 t126 s0_5).bind fun bt127 => ((spec_reader_take.f bt127.2.2.1 bt127.2.2.2.1 bt127.2.2.2.2.1 s0_3 bt127.2.2.2.2.2 s0_5 (⟨#[32, 43]⟩ : ByteArray)).bind fun bt133 => ((spec_reader_span.f k bt133.1 bt133.2.1 bt133.2.2.1 s0_3 bt133.2.2.2 s0_5).bind fun bt137 => ((spec_reader_take.f bt137.2.2.1 bt137.2.2.2.1 bt137.2.2.2.2.1 s0_3 bt137.2.2.2.2.2 s0_5 (⟨#[32, 64, 64, 10]⟩ : ByteArray)).bind fun bt143 => (some (bt127.1, bt127.2.1, bt137.1, bt137.2.1, 0, 0, bt143.1, bt143.2.1, bt143.2.2.1, bt143.2.2.2)))))) = some (r1, r2, r3, r4, r5, r6, r7, r8, r9, r10) := H
  have A2 := Aside0.mk A20
  clear A20
  replace H := Option.bind_eq_some_iff.mp H
  obtain ⟨⟨t127, t128, t129, t130, t131, t132⟩, A30, H⟩ := H
  replace H : ((spec_reader_take.f t129 t130 t131 s0_3 t132 s0_5 (⟨#[32, 43]⟩ : ByteArray)).bind fun bt133 => ((spec_reader_span.f k bt133.1 bt133.2.1 bt133.2.2.1 s0_3 bt133.2.2.2 s0_5).bind fun bt137 => ((spec_reader_take.f bt137.2.2.1 bt137.2.2.2.1 bt137.2.2.2.2.1 s0_3 bt137.2.2.2.2.2 s0_5 (⟨#[32, 64, 64, 10]⟩ : ByteArray)).bind fun bt143 => (some (t127, t128, bt137.1, bt137.2.1, 0, 0, bt143.1, bt143.2.1, bt143.2.2.1, bt143.2.2.2))))) = some (r1, r2, r3, r4, r5, r6, r7, r8, r9, r10) := H
  have A3 := Aside0.mk A30
  clear A30
  replace H := Option.bind_eq_some_iff.mp H
  obtain ⟨⟨t133, t134, t135, t136⟩, A40, H⟩ := H
  replace H : ((spec_reader_span.f k t133 t134 t135 s0_3 t136 s0_5).bind fun bt137 => ((spec_reader_take.f bt137.2.2.1 bt137.2.2.2.1 bt137.2.2.2.2.1 s0_3 bt137.2.2.2.2.2 s0_5 (⟨#[32, 64, 64, 10]⟩ : ByteArray)).bind fun bt143 => (some (t127, t128, bt137.1, bt137.2.1, 0, 0, bt143.1, bt143.2.1, bt143.2.2.1, bt143.2.2.2)))) = some (r1, r2, r3, r4, r5, r6, r7, r8, r9, r10) := H
  have A4 := Aside0.mk A40
  clear A40
  replace H := Option.bind_eq_some_iff.mp H
  obtain ⟨⟨t137, t138, t139, t140, t141, t142⟩, A50, H⟩ := H
  replace H : ((spec_reader_take.f t139 t140 t141 s0_3 t142 s0_5 (⟨#[32, 64, 64, 10]⟩ : ByteArray)).bind fun bt143 => (some (t127, t128, t137, t138, 0, 0, bt143.1, bt143.2.1, bt143.2.2.1, bt143.2.2.2))) = some (r1, r2, r3, r4, r5, r6, r7, r8, r9, r10) := H
  have A5 := Aside0.mk A50
  clear A50
  replace H := Option.bind_eq_some_iff.mp H
  obtain ⟨⟨t143, t144, t145, t146⟩, A60, H⟩ := H
  replace H : (some (t127, t128, t137, t138, 0, 0, t143, t144, t145, t146)) = some (r1, r2, r3, r4, r5, r6, r7, r8, r9, r10) := H
  have A6 := Aside0.mk A60
  clear A60
  simp only [Option.some.injEq, Prod.mk.injEq] at H
  obtain ⟨rfl, rfl, rfl, rfl, rfl, rfl, rfl, rfl, rfl, rfl⟩ := H
  go_enter Tryz.func29, Tryz.ntmps29
  go_wp2_with (first | ((with_reducible refine gate_dst (N := 2) rfl ?_); refine box_event ?hg (N := 2) ?hd (cs := #[.int .i64 0, .int .i64 0, .int .i64 0, .int .i64 0, .int .i64 0, .int .i64 0]) (t := 46) ?hr ?_; (case hd => rfl); (case hg => rfl); (case hr => first | (go_simp; done) | (go_simp; rfl)); intro gb121 hg w7 hbox hb; have n0_ := Aside0.mk (IsS43.below (by repeat (first | (with_reducible first | exact HI0.out | apply IsS43.alloc | apply IsS43.drewN | apply IsS43.drew | apply IsS43.set_0 | apply IsS43.set_1 | apply IsS43.set_2 | apply IsS43.set_4) | exact HI0.out)) hb); have n1_ := Aside0.mk (KeepBut.trans (by repeat (first | (with_reducible first | exact HK.out | apply KeepBut.set_ | apply keep_drewN | apply keep_drew | apply keep_alloc) | exact HK.out)) (KeepBut.of_below hb g none) (.inl rfl)); have n2_ := Aside0.mk (below_step (by repeat (first | (with_reducible first | exact HB.out | apply below_alloc | apply pw_below_drewN | apply below_drew1 | refine below_set ?_ (IsS43.ge HI0.out)) | exact HB.out)) hb); have n3_ := Aside0.mk (hbox); have n4_ := Aside0.mk ((by rw [hg]; exact (keep_size (w := w) (g := g) (row := none) (by repeat (first | (with_reducible first | exact HK.out | apply KeepBut.set_ | apply keep_drewN | apply keep_drew | apply keep_alloc) | exact HK.out))) : w.heap.size ≤ gb121)); have n5_ := Aside0.mk ((Nat.le_trans HW0.out (by rw [hg]; exact (keep_size (w := w) (g := g) (row := none) (by repeat (first | (with_reducible first | exact HK.out | apply KeepBut.set_ | apply keep_drewN | apply keep_drew | apply keep_alloc) | exact HK.out))) : w.heap.size ≤ gb121) : w0.heap.size ≤ gb121)); have n6_ := Aside0.mk ((by rw [hg]; exact Nat.ne_of_lt (IsS43.lt (show IsS43 w0 _ g s0_0 s0_1 s0_2 s0_3 s0_4 s0_5 from by repeat (first | (with_reducible first | exact HI0.out | apply IsS43.alloc | apply IsS43.drewN | apply IsS43.drew | apply IsS43.set_0 | apply IsS43.set_1 | apply IsS43.set_2 | apply IsS43.set_4) | exact HI0.out))) : g ≠ gb121)); have n7_ := Aside0.mk ((by rw [hg]; exact Nat.ne_of_gt (IsS43.lt (show IsS43 w0 _ g s0_0 s0_1 s0_2 s0_3 s0_4 s0_5 from by repeat (first | (with_reducible first | exact HI0.out | apply IsS43.alloc | apply IsS43.drewN | apply IsS43.drew | apply IsS43.set_0 | apply IsS43.set_1 | apply IsS43.set_2 | apply IsS43.set_4) | exact HI0.out))) : gb121 ≠ g)); clear HI0; clear HK; clear HB; have HI0 := n0_; have HK := n1_; have HB := n2_; have BK121 := n3_; have GW121 := n4_; have GE121 := n5_; have NB0_121 := n6_; have NB121_0 := n7_; clear n0_ n1_ n2_ n3_ n4_ n5_ n6_ n7_; clear hb hbox hg) | ((with_reducible refine gate_dst (N := 3) rfl ?_); refine box_event ?hg (N := 3) ?hd (cs := #[.int .i64 0, .int .i64 0, .int .i64 0, .int .i64 0, .int .i64 0, .int .i64 0]) (t := 46) ?hr ?_; (case hd => rfl); (case hg => rfl); (case hr => first | (go_simp; done) | (go_simp; rfl)); intro gb122 hg w8 hbox hb; have n0_ := Aside0.mk (IsS43.below (by repeat (first | (with_reducible first | exact HI0.out | apply IsS43.alloc | apply IsS43.drewN | apply IsS43.drew | apply IsS43.set_0 | apply IsS43.set_1 | apply IsS43.set_2 | apply IsS43.set_4 | refine IsS43.far ?_ NB0_121.out _) | exact HI0.out)) hb); have n1_ := Aside0.mk (blk_below (g := gb121) (o := .cells #[.int .i64 0, .int .i64 0, .int .i64 0, .int .i64 0, .int .i64 0, .int .i64 0] 46 (0, 0)) (by (with_reducible repeat (first | refine blk_drewN ?_ _ | refine blk_drew ?_ | refine blk_alloc ?_ _)); exact BK121.out) hb); have n2_ := Aside0.mk (KeepBut.trans (by repeat (first | (with_reducible first | exact HK.out | apply KeepBut.set_ | apply keep_drewN | apply keep_drew | apply keep_alloc | refine keep_far ?_ GW121.out _) | exact HK.out)) (KeepBut.of_below hb g none) (.inl rfl)); have n3_ := Aside0.mk (below_step (by repeat (first | (with_reducible first | exact HB.out | apply below_alloc | apply pw_below_drewN | apply below_drew1 | refine below_set ?_ (IsS43.ge HI0.out) | refine below_set ?_ GE121.out) | exact HB.out)) hb); have n4_ := Aside0.mk (hbox); have n5_ := Aside0.mk ((by rw [hg]; exact (keep_size (w := w) (g := g) (row := none) (by repeat (first | (with_reducible first | exact HK.out | apply KeepBut.set_ | apply keep_drewN | apply keep_drew | apply keep_alloc | refine keep_far ?_ GW121.out _) | exact HK.out))) : w.heap.size ≤ gb122)); have n6_ := Aside0.mk ((Nat.le_trans HW0.out (by rw [hg]; exact (keep_size (w := w) (g := g) (row := none) (by repeat (first | (with_reducible first | exact HK.out | apply KeepBut.set_ | apply keep_drewN | apply keep_drew | apply keep_alloc | refine keep_far ?_ GW121.out _) | exact HK.out))) : w.heap.size ≤ gb122) : w0.heap.size ≤ gb122)); have n7_ := Aside0.mk ((by rw [hg]; exact Nat.ne_of_lt (blk_lt (g := gb121) (o := .cells #[.int .i64 0, .int .i64 0, .int .i64 0, .int .i64 0, .int .i64 0, .int .i64 0] 46 (0, 0)) (by (with_reducible repeat (first | refine blk_drewN ?_ _ | refine blk_drew ?_ | refine blk_alloc ?_ _)); exact BK121.out)) : gb121 ≠ gb122)); have n8_ := Aside0.mk ((by rw [hg]; exact Nat.ne_of_gt (blk_lt (g := gb121) (o := .cells #[.int .i64 0, .int .i64 0, .int .i64 0, .int .i64 0, .int .i64 0, .int .i64 0] 46 (0, 0)) (by (with_reducible repeat (first | refine blk_drewN ?_ _ | refine blk_drew ?_ | refine blk_alloc ?_ _)); exact BK121.out)) : gb122 ≠ gb121)); have n9_ := Aside0.mk ((by rw [hg]; exact Nat.ne_of_lt (IsS43.lt (show IsS43 w0 _ g s0_0 s0_1 s0_2 s0_3 s0_4 s0_5 from by repeat (first | (with_reducible first | exact HI0.out | apply IsS43.alloc | apply IsS43.drewN | apply IsS43.drew | apply IsS43.set_0 | apply IsS43.set_1 | apply IsS43.set_2 | apply IsS43.set_4 | refine IsS43.far ?_ NB0_121.out _) | exact HI0.out))) : g ≠ gb122)); have n10_ := Aside0.mk ((by rw [hg]; exact Nat.ne_of_gt (IsS43.lt (show IsS43 w0 _ g s0_0 s0_1 s0_2 s0_3 s0_4 s0_5 from by repeat (first | (with_reducible first | exact HI0.out | apply IsS43.alloc | apply IsS43.drewN | apply IsS43.drew | apply IsS43.set_0 | apply IsS43.set_1 | apply IsS43.set_2 | apply IsS43.set_4 | refine IsS43.far ?_ NB0_121.out _) | exact HI0.out))) : gb122 ≠ g)); clear HI0; clear BK121; clear HK; clear HB; have HI0 := n0_; have BK121 := n1_; have HK := n2_; have HB := n3_; have BK122 := n4_; have GW122 := n5_; have GE122 := n6_; have NB121_122 := n7_; have NB122_121 := n8_; have NB0_122 := n9_; have NB122_0 := n10_; clear n0_ n1_ n2_ n3_ n4_ n5_ n6_ n7_ n8_ n9_ n10_; clear hb hbox hg; have hnb9 := NB122_121.out; have hnc9 := NB121_122.out; have hnb10 := NB122_0.out; have hnc10 := NB0_122.out; have hcz11_0 : w8.cell? ⟨gb122, 0, none⟩ = some (.int .i64 0) := (blk_cell BK122.out 0).trans rfl; have hcz11_1 : w8.cell? ⟨gb122, 1, none⟩ = some (.int .i64 0) := (blk_cell BK122.out 1).trans rfl; have hcz11_2 : w8.cell? ⟨gb122, 2, none⟩ = some (.int .i64 0) := (blk_cell BK122.out 2).trans rfl; have hcz11_3 : w8.cell? ⟨gb122, 3, none⟩ = some (.int .i64 0) := (blk_cell BK122.out 3).trans rfl; have hcz11_4 : w8.cell? ⟨gb122, 4, none⟩ = some (.int .i64 0) := (blk_cell BK122.out 4).trans rfl; have hcz11_5 : w8.cell? ⟨gb122, 5, none⟩ = some (.int .i64 0) := (blk_cell BK122.out 5).trans rfl; have hfz11_0 := blk_frozen BK122.out 0; have hfz11_1 := blk_frozen BK122.out 1; have hfz11_2 := blk_frozen BK122.out 2; have hfz11_3 := blk_frozen BK122.out 3; have hfz11_4 := blk_frozen BK122.out 4; have hfz11_5 := blk_frozen BK122.out 5) | ((with_reducible refine gate_callee (f := 19) rfl ?_); refine goesL_ (some 6) rfl rfl Tryz.func19 (by kernel_rfl) rfl #[.pointer (some ⟨g, 0, none⟩), .string (⟨#[64, 64, 32, 45]⟩ : ByteArray)] rfl (by (try simp only [List.map_toArray, List.map_cons, List.map_nil]); first | done | rfl | (simp only [List.length_drop, List.length_take]; rfl)) ?_; (with_reducible refine (spec_reader_take.calls g s0_0 s0_1 s0_2 s0_3 s0_4 s0_5 (⟨#[64, 64, 32, 45]⟩ : ByteArray) t123 t124 t125 t126 w0 _ ?side1 ?side2 A2.out).mono ?_); (case side1 => repeat (first | (with_reducible first | exact HI0.out | apply IsS43.alloc | apply IsS43.drewN | apply IsS43.drew | apply IsS43.set_0 | apply IsS43.set_1 | apply IsS43.set_2 | apply IsS43.set_4 | refine IsS43.far ?_ NB0_121.out _ | refine IsS43.far ?_ NB0_122.out _) | exact HI0.out)); (case side2 => repeat (first | (with_reducible first | exact HB.out | apply below_alloc | apply pw_below_drewN | apply below_drew1 | refine below_set ?_ (IsS43.ge HI0.out) | refine below_set ?_ GE121.out | refine below_set ?_ GE122.out) | exact HB.out)); rintro e w12 ⟨rfl, hi, hb, hk⟩; refine ⟨_, rfl, ?_⟩; have n0_ := Aside0.mk (KeepBut.blk hk (g' := gb121) (o := .cells #[.int .i64 0, .int .i64 0, .int .i64 0, .int .i64 0, .int .i64 0, .int .i64 0] 46 (0, 0)) (by (with_reducible repeat (first | refine blk_drewN ?_ _ | refine blk_drew ?_ | refine blk_alloc ?_ _)); refine blk_far ?_ NB121_122.out _; (with_reducible repeat (first | refine blk_drewN ?_ _ | refine blk_drew ?_ | refine blk_alloc ?_ _)); refine blk_far ?_ NB121_122.out _; (with_reducible repeat (first | refine blk_drewN ?_ _ | refine blk_drew ?_ | refine blk_alloc ?_ _)); refine blk_far ?_ NB121_122.out _; (with_reducible repeat (first | refine blk_drewN ?_ _ | refine blk_drew ?_ | refine blk_alloc ?_ _)); refine blk_far ?_ NB121_122.out _; (with_reducible repeat (first | refine blk_drewN ?_ _ | refine blk_drew ?_ | refine blk_alloc ?_ _)); refine blk_far ?_ NB121_122.out _; (with_reducible repeat (first | refine blk_drewN ?_ _ | refine blk_drew ?_ | refine blk_alloc ?_ _)); refine blk_far ?_ NB121_122.out _; (with_reducible repeat (first | refine blk_drewN ?_ _ | refine blk_drew ?_ | refine blk_alloc ?_ _)); exact BK121.out) NB121_0.out (by simp)); have n1_ := Aside0.mk (KeepBut.blk hk (g' := gb122) (o := .cells #[.int .i64 0, .int .i64 0, .int .i64 0, .int .i64 0, .int .i64 0, .int .i64 0] 46 (0, 0)) (by (with_reducible repeat (first | refine blk_drewN ?_ _ | refine blk_drew ?_ | refine blk_alloc ?_ _)); refine blk_put (cs := #[.int .i64 0, .int .i64 0, .int .i64 0, .int .i64 0, .int .i64 0, .int .i64 0]) ?_ 5 _ rfl; (with_reducible repeat (first | refine blk_drewN ?_ _ | refine blk_drew ?_ | refine blk_alloc ?_ _)); refine blk_put (cs := #[.int .i64 0, .int .i64 0, .int .i64 0, .int .i64 0, .int .i64 0, .int .i64 0]) ?_ 4 _ rfl; (with_reducible repeat (first | refine blk_drewN ?_ _ | refine blk_drew ?_ | refine blk_alloc ?_ _)); refine blk_put (cs := #[.int .i64 0, .int .i64 0, .int .i64 0, .int .i64 0, .int .i64 0, .int .i64 0]) ?_ 3 _ rfl; (with_reducible repeat (first | refine blk_drewN ?_ _ | refine blk_drew ?_ | refine blk_alloc ?_ _)); refine blk_put (cs := #[.int .i64 0, .int .i64 0, .int .i64 0, .int .i64 0, .int .i64 0, .int .i64 0]) ?_ 2 _ rfl; (with_reducible repeat (first | refine blk_drewN ?_ _ | refine blk_drew ?_ | refine blk_alloc ?_ _)); refine blk_put (cs := #[.int .i64 0, .int .i64 0, .int .i64 0, .int .i64 0, .int .i64 0, .int .i64 0]) ?_ 1 _ rfl; (with_reducible repeat (first | refine blk_drewN ?_ _ | refine blk_drew ?_ | refine blk_alloc ?_ _)); refine blk_put (cs := #[.int .i64 0, .int .i64 0, .int .i64 0, .int .i64 0, .int .i64 0, .int .i64 0]) ?_ 0 _ rfl; (with_reducible repeat (first | refine blk_drewN ?_ _ | refine blk_drew ?_ | refine blk_alloc ?_ _)); exact BK122.out) NB122_0.out (by simp)); have n2_ := Aside0.mk (KeepBut.trans (by repeat (first | (with_reducible first | exact HK.out | apply KeepBut.set_ | apply keep_drewN | apply keep_drew | apply keep_alloc | refine keep_far ?_ GW121.out _ | refine keep_far ?_ GW122.out _) | exact HK.out)) hk (.inl rfl)); have n3_ := Aside0.mk (hb); have n4_ := Aside0.mk (hi); clear BK121; clear BK122; clear HK; clear HB; clear HI0; have BK121 := n0_; have BK122 := n1_; have HK := n2_; have HB := n3_; have HI0 := n4_; clear n0_ n1_ n2_ n3_ n4_; (try clear hb); (try clear hb2); (try clear hk); (try clear hi)) | ((with_reducible refine gate_callee (f := 39) rfl ?_); refine goesL_ (some 9) rfl rfl Tryz.func39 (by kernel_rfl) rfl #[.pointer (some ⟨g, 0, none⟩)] rfl (by (try simp only [List.map_toArray, List.map_cons, List.map_nil]); first | done | rfl | (simp only [List.length_drop, List.length_take]; rfl)) ?_; (with_reducible refine (spec_reader_span.calls k g t123 t124 t125 s0_3 t126 s0_5 t127 t128 t129 t130 t131 t132 w0 _ ?side1 ?side2 A3.out).mono ?_); (case side1 => repeat (first | (with_reducible first | exact HI0.out | apply IsS43.alloc | apply IsS43.drewN | apply IsS43.drew | apply IsS43.set_0 | apply IsS43.set_1 | apply IsS43.set_2 | apply IsS43.set_4 | refine IsS43.far ?_ NB0_121.out _ | refine IsS43.far ?_ NB0_122.out _) | exact HI0.out)); (case side2 => repeat (first | (with_reducible first | exact HB.out | apply below_alloc | apply pw_below_drewN | apply below_drew1 | refine below_set ?_ (IsS43.ge HI0.out) | refine below_set ?_ GE121.out | refine below_set ?_ GE122.out) | exact HB.out)); rintro e w13 ⟨rfl, hi, hb, hk⟩; refine ⟨_, rfl, ?_⟩; have n0_ := Aside0.mk (KeepBut.blk hk (g' := gb121) (o := .cells #[.int .i64 0, .int .i64 0, .int .i64 0, .int .i64 0, .int .i64 0, .int .i64 0] 46 (0, 0)) (by (with_reducible repeat (first | refine blk_drewN ?_ _ | refine blk_drew ?_ | refine blk_alloc ?_ _)); exact BK121.out) NB121_0.out (by simp)); have n1_ := Aside0.mk (KeepBut.blk hk (g' := gb122) (o := .cells #[.int .i64 0, .int .i64 0, .int .i64 0, .int .i64 0, .int .i64 0, .int .i64 0] 46 (0, 0)) (by (with_reducible repeat (first | refine blk_drewN ?_ _ | refine blk_drew ?_ | refine blk_alloc ?_ _)); exact BK122.out) NB122_0.out (by simp)); have n2_ := Aside0.mk (KeepBut.trans (by repeat (first | (with_reducible first | exact HK.out | apply KeepBut.set_ | apply keep_drewN | apply keep_drew | apply keep_alloc | refine keep_far ?_ GW121.out _ | refine keep_far ?_ GW122.out _) | exact HK.out)) hk (.inl rfl)); have n3_ := Aside0.mk (hb); have n4_ := Aside0.mk (hi); clear BK121; clear BK122; clear HK; clear HB; clear HI0; have BK121 := n0_; have BK122 := n1_; have HK := n2_; have HB := n3_; have HI0 := n4_; clear n0_ n1_ n2_ n3_ n4_; (try clear hb); (try clear hb2); (try clear hk); (try clear hi); have hcz14_0 : w13.cell? ⟨gb122, 0, none⟩ = some (.int .i64 0) := (blk_cell BK122.out 0).trans rfl; have hcz14_1 : w13.cell? ⟨gb122, 1, none⟩ = some (.int .i64 0) := (blk_cell BK122.out 1).trans rfl; have hcz14_2 : w13.cell? ⟨gb122, 2, none⟩ = some (.int .i64 0) := (blk_cell BK122.out 2).trans rfl; have hcz14_3 : w13.cell? ⟨gb122, 3, none⟩ = some (.int .i64 0) := (blk_cell BK122.out 3).trans rfl; have hcz14_4 : w13.cell? ⟨gb122, 4, none⟩ = some (.int .i64 0) := (blk_cell BK122.out 4).trans rfl; have hcz14_5 : w13.cell? ⟨gb122, 5, none⟩ = some (.int .i64 0) := (blk_cell BK122.out 5).trans rfl; have hfz14_0 := blk_frozen BK122.out 0; have hfz14_1 := blk_frozen BK122.out 1; have hfz14_2 := blk_frozen BK122.out 2; have hfz14_3 := blk_frozen BK122.out 3; have hfz14_4 := blk_frozen BK122.out 4; have hfz14_5 := blk_frozen BK122.out 5) | ((with_reducible refine gate_callee (f := 19) rfl ?_); refine goesL_ (some 15) rfl rfl Tryz.func19 (by kernel_rfl) rfl #[.pointer (some ⟨g, 0, none⟩), .string (⟨#[32, 43]⟩ : ByteArray)] rfl (by (try simp only [List.map_toArray, List.map_cons, List.map_nil]); first | done | rfl | (simp only [List.length_drop, List.length_take]; rfl)) ?_; (with_reducible refine (spec_reader_take.calls g t129 t130 t131 s0_3 t132 s0_5 (⟨#[32, 43]⟩ : ByteArray) t133 t134 t135 t136 w0 _ ?side1 ?side2 A4.out).mono ?_); (case side1 => repeat (first | (with_reducible first | exact HI0.out | apply IsS43.alloc | apply IsS43.drewN | apply IsS43.drew | apply IsS43.set_0 | apply IsS43.set_1 | apply IsS43.set_2 | apply IsS43.set_4 | refine IsS43.far ?_ NB0_121.out _ | refine IsS43.far ?_ NB0_122.out _) | exact HI0.out)); (case side2 => repeat (first | (with_reducible first | exact HB.out | apply below_alloc | apply pw_below_drewN | apply below_drew1 | refine below_set ?_ (IsS43.ge HI0.out) | refine below_set ?_ GE121.out | refine below_set ?_ GE122.out) | exact HB.out)); rintro e w15 ⟨rfl, hi, hb, hk⟩; refine ⟨_, rfl, ?_⟩; have n0_ := Aside0.mk (KeepBut.blk hk (g' := gb121) (o := .cells #[.int .i64 0, .int .i64 0, .int .i64 0, .int .i64 0, .int .i64 0, .int .i64 0] 46 (0, 0)) (by (with_reducible repeat (first | refine blk_drewN ?_ _ | refine blk_drew ?_ | refine blk_alloc ?_ _)); refine blk_far ?_ NB121_122.out _; (with_reducible repeat (first | refine blk_drewN ?_ _ | refine blk_drew ?_ | refine blk_alloc ?_ _)); refine blk_far ?_ NB121_122.out _; (with_reducible repeat (first | refine blk_drewN ?_ _ | refine blk_drew ?_ | refine blk_alloc ?_ _)); exact BK121.out) NB121_0.out (by simp)); have n1_ := Aside0.mk (KeepBut.blk hk (g' := gb122) (o := .cells #[.int .i64 t127, .int .i64 t128, .int .i64 0, .int .i64 0, .int .i64 0, .int .i64 0] 46 (0, 0)) (by (with_reducible repeat (first | refine blk_drewN ?_ _ | refine blk_drew ?_ | refine blk_alloc ?_ _)); refine blk_put (cs := #[.int .i64 t127, .int .i64 0, .int .i64 0, .int .i64 0, .int .i64 0, .int .i64 0]) ?_ 1 _ rfl; (with_reducible repeat (first | refine blk_drewN ?_ _ | refine blk_drew ?_ | refine blk_alloc ?_ _)); refine blk_put (cs := #[.int .i64 0, .int .i64 0, .int .i64 0, .int .i64 0, .int .i64 0, .int .i64 0]) ?_ 0 _ rfl; (with_reducible repeat (first | refine blk_drewN ?_ _ | refine blk_drew ?_ | refine blk_alloc ?_ _)); exact BK122.out) NB122_0.out (by simp)); have n2_ := Aside0.mk (KeepBut.trans (by repeat (first | (with_reducible first | exact HK.out | apply KeepBut.set_ | apply keep_drewN | apply keep_drew | apply keep_alloc | refine keep_far ?_ GW121.out _ | refine keep_far ?_ GW122.out _) | exact HK.out)) hk (.inl rfl)); have n3_ := Aside0.mk (hb); have n4_ := Aside0.mk (hi); clear BK121; clear BK122; clear HK; clear HB; clear HI0; have BK121 := n0_; have BK122 := n1_; have HK := n2_; have HB := n3_; have HI0 := n4_; clear n0_ n1_ n2_ n3_ n4_; (try clear hb); (try clear hb2); (try clear hk); (try clear hi)) | ((with_reducible refine gate_callee (f := 39) rfl ?_); refine goesL_ (some 18) rfl rfl Tryz.func39 (by kernel_rfl) rfl #[.pointer (some ⟨g, 0, none⟩)] rfl (by (try simp only [List.map_toArray, List.map_cons, List.map_nil]); first | done | rfl | (simp only [List.length_drop, List.length_take]; rfl)) ?_; (with_reducible refine (spec_reader_span.calls k g t133 t134 t135 s0_3 t136 s0_5 t137 t138 t139 t140 t141 t142 w0 _ ?side1 ?side2 A5.out).mono ?_); (case side1 => repeat (first | (with_reducible first | exact HI0.out | apply IsS43.alloc | apply IsS43.drewN | apply IsS43.drew | apply IsS43.set_0 | apply IsS43.set_1 | apply IsS43.set_2 | apply IsS43.set_4 | refine IsS43.far ?_ NB0_121.out _ | refine IsS43.far ?_ NB0_122.out _) | exact HI0.out)); (case side2 => repeat (first | (with_reducible first | exact HB.out | apply below_alloc | apply pw_below_drewN | apply below_drew1 | refine below_set ?_ (IsS43.ge HI0.out) | refine below_set ?_ GE121.out | refine below_set ?_ GE122.out) | exact HB.out)); rintro e w16 ⟨rfl, hi, hb, hk⟩; refine ⟨_, rfl, ?_⟩; have n0_ := Aside0.mk (KeepBut.blk hk (g' := gb121) (o := .cells #[.int .i64 0, .int .i64 0, .int .i64 0, .int .i64 0, .int .i64 0, .int .i64 0] 46 (0, 0)) (by (with_reducible repeat (first | refine blk_drewN ?_ _ | refine blk_drew ?_ | refine blk_alloc ?_ _)); exact BK121.out) NB121_0.out (by simp)); have n1_ := Aside0.mk (KeepBut.blk hk (g' := gb122) (o := .cells #[.int .i64 t127, .int .i64 t128, .int .i64 0, .int .i64 0, .int .i64 0, .int .i64 0] 46 (0, 0)) (by (with_reducible repeat (first | refine blk_drewN ?_ _ | refine blk_drew ?_ | refine blk_alloc ?_ _)); exact BK122.out) NB122_0.out (by simp)); have n2_ := Aside0.mk (KeepBut.trans (by repeat (first | (with_reducible first | exact HK.out | apply KeepBut.set_ | apply keep_drewN | apply keep_drew | apply keep_alloc | refine keep_far ?_ GW121.out _ | refine keep_far ?_ GW122.out _) | exact HK.out)) hk (.inl rfl)); have n3_ := Aside0.mk (hb); have n4_ := Aside0.mk (hi); clear BK121; clear BK122; clear HK; clear HB; clear HI0; have BK121 := n0_; have BK122 := n1_; have HK := n2_; have HB := n3_; have HI0 := n4_; clear n0_ n1_ n2_ n3_ n4_; (try clear hb); (try clear hb2); (try clear hk); (try clear hi); have hcz17_0 : w16.cell? ⟨gb122, 0, none⟩ = some (.int .i64 t127) := (blk_cell BK122.out 0).trans rfl; have hcz17_1 : w16.cell? ⟨gb122, 1, none⟩ = some (.int .i64 t128) := (blk_cell BK122.out 1).trans rfl; have hcz17_2 : w16.cell? ⟨gb122, 2, none⟩ = some (.int .i64 0) := (blk_cell BK122.out 2).trans rfl; have hcz17_3 : w16.cell? ⟨gb122, 3, none⟩ = some (.int .i64 0) := (blk_cell BK122.out 3).trans rfl; have hcz17_4 : w16.cell? ⟨gb122, 4, none⟩ = some (.int .i64 0) := (blk_cell BK122.out 4).trans rfl; have hcz17_5 : w16.cell? ⟨gb122, 5, none⟩ = some (.int .i64 0) := (blk_cell BK122.out 5).trans rfl; have hfz17_0 := blk_frozen BK122.out 0; have hfz17_1 := blk_frozen BK122.out 1; have hfz17_2 := blk_frozen BK122.out 2; have hfz17_3 := blk_frozen BK122.out 3; have hfz17_4 := blk_frozen BK122.out 4; have hfz17_5 := blk_frozen BK122.out 5) | ((with_reducible refine gate_callee (f := 19) rfl ?_); refine goesL_ (some 24) rfl rfl Tryz.func19 (by kernel_rfl) rfl #[.pointer (some ⟨g, 0, none⟩), .string (⟨#[32, 64, 64, 10]⟩ : ByteArray)] rfl (by (try simp only [List.map_toArray, List.map_cons, List.map_nil]); first | done | rfl | (simp only [List.length_drop, List.length_take]; rfl)) ?_; (with_reducible refine (spec_reader_take.calls g t139 t140 t141 s0_3 t142 s0_5 (⟨#[32, 64, 64, 10]⟩ : ByteArray) t143 t144 t145 t146 w0 _ ?side1 ?side2 A6.out).mono ?_); (case side1 => repeat (first | (with_reducible first | exact HI0.out | apply IsS43.alloc | apply IsS43.drewN | apply IsS43.drew | apply IsS43.set_0 | apply IsS43.set_1 | apply IsS43.set_2 | apply IsS43.set_4 | refine IsS43.far ?_ NB0_121.out _ | refine IsS43.far ?_ NB0_122.out _) | exact HI0.out)); (case side2 => repeat (first | (with_reducible first | exact HB.out | apply below_alloc | apply pw_below_drewN | apply below_drew1 | refine below_set ?_ (IsS43.ge HI0.out) | refine below_set ?_ GE121.out | refine below_set ?_ GE122.out) | exact HB.out)); rintro e w18 ⟨rfl, hi, hb, hk⟩; refine ⟨_, rfl, ?_⟩; have n0_ := Aside0.mk (KeepBut.blk hk (g' := gb121) (o := .cells #[.int .i64 0, .int .i64 0, .int .i64 0, .int .i64 0, .int .i64 0, .int .i64 0] 46 (0, 0)) (by (with_reducible repeat (first | refine blk_drewN ?_ _ | refine blk_drew ?_ | refine blk_alloc ?_ _)); refine blk_far ?_ NB121_122.out _; (with_reducible repeat (first | refine blk_drewN ?_ _ | refine blk_drew ?_ | refine blk_alloc ?_ _)); refine blk_far ?_ NB121_122.out _; (with_reducible repeat (first | refine blk_drewN ?_ _ | refine blk_drew ?_ | refine blk_alloc ?_ _)); exact BK121.out) NB121_0.out (by simp)); have n1_ := Aside0.mk (KeepBut.blk hk (g' := gb122) (o := .cells #[.int .i64 t127, .int .i64 t128, .int .i64 t137, .int .i64 t138, .int .i64 0, .int .i64 0] 46 (0, 0)) (by (with_reducible repeat (first | refine blk_drewN ?_ _ | refine blk_drew ?_ | refine blk_alloc ?_ _)); refine blk_put (cs := #[.int .i64 t127, .int .i64 t128, .int .i64 t137, .int .i64 0, .int .i64 0, .int .i64 0]) ?_ 3 _ rfl; (with_reducible repeat (first | refine blk_drewN ?_ _ | refine blk_drew ?_ | refine blk_alloc ?_ _)); refine blk_put (cs := #[.int .i64 t127, .int .i64 t128, .int .i64 0, .int .i64 0, .int .i64 0, .int .i64 0]) ?_ 2 _ rfl; (with_reducible repeat (first | refine blk_drewN ?_ _ | refine blk_drew ?_ | refine blk_alloc ?_ _)); exact BK122.out) NB122_0.out (by simp)); have n2_ := Aside0.mk (KeepBut.trans (by repeat (first | (with_reducible first | exact HK.out | apply KeepBut.set_ | apply keep_drewN | apply keep_drew | apply keep_alloc | refine keep_far ?_ GW121.out _ | refine keep_far ?_ GW122.out _) | exact HK.out)) hk (.inl rfl)); have n3_ := Aside0.mk (hb); have n4_ := Aside0.mk (hi); clear BK121; clear BK122; clear HK; clear HB; clear HI0; have BK121 := n0_; have BK122 := n1_; have HK := n2_; have HB := n3_; have HI0 := n4_; clear n0_ n1_ n2_ n3_ n4_; (try clear hb); (try clear hb2); (try clear hk); (try clear hi); have hcz19_0 : w18.cell? ⟨gb122, 0, none⟩ = some (.int .i64 t127) := (blk_cell BK122.out 0).trans rfl; have hcz19_1 : w18.cell? ⟨gb122, 1, none⟩ = some (.int .i64 t128) := (blk_cell BK122.out 1).trans rfl; have hcz19_2 : w18.cell? ⟨gb122, 2, none⟩ = some (.int .i64 t137) := (blk_cell BK122.out 2).trans rfl; have hcz19_3 : w18.cell? ⟨gb122, 3, none⟩ = some (.int .i64 t138) := (blk_cell BK122.out 3).trans rfl; have hcz19_4 : w18.cell? ⟨gb122, 4, none⟩ = some (.int .i64 0) := (blk_cell BK122.out 4).trans rfl; have hcz19_5 : w18.cell? ⟨gb122, 5, none⟩ = some (.int .i64 0) := (blk_cell BK122.out 5).trans rfl; have hfz19_0 := blk_frozen BK122.out 0; have hfz19_1 := blk_frozen BK122.out 1; have hfz19_2 := blk_frozen BK122.out 2; have hfz19_3 := blk_frozen BK122.out 3; have hfz19_4 := blk_frozen BK122.out 4; have hfz19_5 := blk_frozen BK122.out 5; have hnb20 := NB121_0.out; have hnc20 := NB0_121.out; have hcz21_0 : w18.cell? ⟨gb121, 0, none⟩ = some (.int .i64 0) := (blk_cell BK121.out 0).trans rfl; have hcz21_1 : w18.cell? ⟨gb121, 1, none⟩ = some (.int .i64 0) := (blk_cell BK121.out 1).trans rfl; have hcz21_2 : w18.cell? ⟨gb121, 2, none⟩ = some (.int .i64 0) := (blk_cell BK121.out 2).trans rfl; have hcz21_3 : w18.cell? ⟨gb121, 3, none⟩ = some (.int .i64 0) := (blk_cell BK121.out 3).trans rfl; have hcz21_4 : w18.cell? ⟨gb121, 4, none⟩ = some (.int .i64 0) := (blk_cell BK121.out 4).trans rfl; have hcz21_5 : w18.cell? ⟨gb121, 5, none⟩ = some (.int .i64 0) := (blk_cell BK121.out 5).trans rfl; have hfz21_0 := blk_frozen BK121.out 0; have hfz21_1 := blk_frozen BK121.out 1; have hfz21_2 := blk_frozen BK121.out 2; have hfz21_3 := blk_frozen BK121.out 3; have hfz21_4 := blk_frozen BK121.out 4; have hfz21_5 := blk_frozen BK121.out 5))
  refine bodyPost_ret (results_cell_row rfl _ _ gb121 46 #[.int .i64 t127, .int .i64 t128, .int .i64 t137, .int .i64 t138, .int .i64 0, .int .i64 0] (0, 0) _ rfl (by (with_reducible repeat (first | refine blk_drewN ?_ _ | refine blk_drew ?_ | refine blk_alloc ?_ _)); refine blk_put (cs := #[.int .i64 t127, .int .i64 t128, .int .i64 t137, .int .i64 t138, .int .i64 0, .int .i64 0]) ?_ 5 _ rfl; (with_reducible repeat (first | refine blk_drewN ?_ _ | refine blk_drew ?_ | refine blk_alloc ?_ _)); refine blk_put (cs := #[.int .i64 t127, .int .i64 t128, .int .i64 t137, .int .i64 t138, .int .i64 0, .int .i64 0]) ?_ 4 _ rfl; (with_reducible repeat (first | refine blk_drewN ?_ _ | refine blk_drew ?_ | refine blk_alloc ?_ _)); refine blk_put (cs := #[.int .i64 t127, .int .i64 t128, .int .i64 t137, .int .i64 0, .int .i64 0, .int .i64 0]) ?_ 3 _ rfl; (with_reducible repeat (first | refine blk_drewN ?_ _ | refine blk_drew ?_ | refine blk_alloc ?_ _)); refine blk_put (cs := #[.int .i64 t127, .int .i64 t128, .int .i64 0, .int .i64 0, .int .i64 0, .int .i64 0]) ?_ 2 _ rfl; (with_reducible repeat (first | refine blk_drewN ?_ _ | refine blk_drew ?_ | refine blk_alloc ?_ _)); refine blk_put (cs := #[.int .i64 t127, .int .i64 0, .int .i64 0, .int .i64 0, .int .i64 0, .int .i64 0]) ?_ 1 _ rfl; (with_reducible repeat (first | refine blk_drewN ?_ _ | refine blk_drew ?_ | refine blk_alloc ?_ _)); refine blk_put (cs := #[.int .i64 0, .int .i64 0, .int .i64 0, .int .i64 0, .int .i64 0, .int .i64 0]) ?_ 0 _ rfl; (with_reducible repeat (first | refine blk_drewN ?_ _ | refine blk_drew ?_ | refine blk_alloc ?_ _)); exact BK121.out) Tryz.underlying46 rfl (by kernel_rfl)) rfl ?_
  exact ⟨by first | rfl | (simp [errW_none, errW_some] <;> rfl) | (simp [*, errW_none, errW_some] <;> rfl), by repeat (first | (with_reducible first | exact HI0.out | apply IsS43.alloc | apply IsS43.drewN | apply IsS43.drew | apply IsS43.set_0 | apply IsS43.set_1 | apply IsS43.set_2 | apply IsS43.set_4 | refine IsS43.far ?_ NB0_121.out _ | refine IsS43.far ?_ NB0_122.out _) | exact HI0.out), by repeat (first | (with_reducible first | exact HB.out | apply below_alloc | apply pw_below_drewN | apply below_drew1 | refine below_set ?_ (IsS43.ge HI0.out) | refine below_set ?_ GE121.out | refine below_set ?_ GE122.out) | exact HB.out), by repeat (first | (with_reducible first | exact HK.out | apply KeepBut.set_ | apply keep_drewN | apply keep_drew | apply keep_alloc | refine keep_far ?_ GW121.out _ | refine keep_far ?_ GW122.out _) | exact HK.out)⟩
def spec_place.f (a0 : Int) (a1 : Int) : Option (Int) := if a1 = 0 then (some a0) else (some (wrap64 (a0 - 1)))
set_option maxHeartbeats 8000000 in
set_option maxRecDepth 100000 in
theorem spec_place.calls (a0 : Int) (a1 : Int) (r : Int) (w : World) (h : spec_place.f a0 a1 = some r) :
    Calls Tryz.prog 22 #[.int .i64 a0, .int .i64 a1] w fun e w' => e = .returned (.int .i64 r) ∧ Drawn0 w w' := by
  have H : (if a1 = 0 then (some a0) else (some (wrap64 (a0 - 1)))) = some r := h
  clear h
  by_cases c3 : a1 = 0
  · rw [if_pos c3] at H
    have c3b0 : (a1 == 0) = true := beq_iff_eq.mpr c3
    have c3b1 : (a1 != 0) = false := bne_eq_false_iff_eq.mpr c3
    clear c3
    obtain rfl := Option.some.inj H
    go_enter Tryz.func22, Tryz.ntmps22
    go_wp2
    go_ret
    exact ⟨by first | rfl | (simp; done) | (simp [*]; done), by repeat (first | exact Drawn0.refl _ | apply Drawn0.step)⟩
  · rw [if_neg c3] at H
    have c3b0 : (a1 == 0) = false := beq_eq_false_iff_ne.mpr c3
    have c3b1 : (a1 != 0) = true := bne_iff_ne.mpr c3
    obtain rfl := Option.some.inj H
    go_enter Tryz.func22, Tryz.ntmps22
    go_wp2
    go_ret
    exact ⟨by first | rfl | (simp; done) | (simp [*]; done), by repeat (first | exact Drawn0.refl _ | apply Drawn0.step)⟩
def spec_reader_line.l0 : Nat → Int → ByteArray → Int → Bool → Pin → Int → Pin → Option (ByteArray × ByteArray × Int × Bool × Int)
  | 0, _, _, _, _, _, _, _ => none
  | k + 1, x3, x1000, x1001, x1002, x1003, x1004, x1005 => if x3 < (x1000.size : Int) then (if 0 ≤ x3 then (if (bt x1000 x3) = 10 then (if 0 ≤ x1001 then (if x1001 ≤ x3 then (if x3 ≤ (x1000.size : Int) then (some (x1000.extract (x1001 : Int).toNat (x3 : Int).toNat, x1000, wrap64 (x3 + 1), x1002, x1004)) else (none)) else (none)) else (none)) else (spec_reader_line.l0 k (wrap64 (x3 + 1)) x1000 x1001 x1002 x1003 x1004 x1005)) else (none)) else (some ((⟨#[]⟩ : ByteArray), x1000, (x1000.size : Int), true, x1004))
def spec_reader_line.f (k : Nat) (s0_0 : ByteArray) (s0_1 : Int) (s0_2 : Bool) (s0_3 : Pin) (s0_4 : Int) (s0_5 : Pin) : Option (ByteArray × ByteArray × Int × Bool × Int) := spec_reader_line.l0 k s0_1 s0_0 s0_1 s0_2 s0_3 s0_4 s0_5
set_option maxHeartbeats 8000000 in
set_option maxRecDepth 100000 in
theorem spec_reader_line.calls (k : Nat) (g : Nat) (s0_0 : ByteArray) (s0_1 : Int) (s0_2 : Bool) (s0_3 : Pin) (s0_4 : Int) (s0_5 : Pin) (r1 : ByteArray) (r2 : ByteArray) (r3 : Int) (r4 : Bool) (r5 : Int) (w0 w : World) (hI : IsS43 w0 w g s0_0 s0_1 s0_2 s0_3 s0_4 s0_5) (hB : Below w0.heap.size w0 w) (h : spec_reader_line.f k s0_0 s0_1 s0_2 s0_3 s0_4 s0_5 = some (r1, r2, r3, r4, r5)) :
    Calls Tryz.prog 40 #[.pointer (some ⟨g, 0, none⟩)] w fun e w' => e = .returned (.string r1) ∧ IsS43 w0 w' g r2 r3 r4 s0_3 r5 s0_5 ∧ Below w0.heap.size w0 w' ∧ KeepBut w w' g none := by
  have HI0 := Aside0.mk hI
  have HK := Aside0.mk (KeepBut.refl w g none)
  have HL := Aside0.mk hB.size
  clear hI
  have HW0 := Aside0.mk hB.size
  have HB := Aside0.mk hB
  clear hB
  have H : (spec_reader_line.l0 k s0_1 s0_0 s0_1 s0_2 s0_3 s0_4 s0_5) = some (r1, r2, r3, r4, r5) := h
  clear h
  have H' := Aside0.mk H
  clear H
  obtain ⟨ASz2_3, cSz2_3, ASz2_5, cSz2_5, HGz2, hgz2, HSz2_3, HSz2_5⟩ := HI0.out
  have hcz2_0 := cellS43_0 HGz2
  have hcz2_1 := cellS43_1 HGz2
  have hcz2_2 := cellS43_2 HGz2
  have hcz2_3 := cellS43_3 HGz2
  have hcz2_4 := cellS43_4 HGz2
  have hcz2_5 := cellS43_5 HGz2
  have hfz2_0 := blk_frozen HGz2 0
  have hfz2_1 := blk_frozen HGz2 1
  have hfz2_2 := blk_frozen HGz2 2
  have hfz2_4 := blk_frozen HGz2 4
  clear HGz2 hgz2
  go_enter Tryz.func40, Tryz.ntmps40
  go_wp2
  repeat (go_quiet (fail); try go_wp2)
  go_loopg [3] k (fun kq v3 w' => ∃ (x3_1 : Int) (x1001_1 : Int), v3 = .int .i64 x3_1 ∧ Aside0 (spec_reader_line.l0 kq x3_1 s0_0 x1001_1 s0_2 s0_3 s0_4 s0_5 = some (r1, r2, r3, r4, r5)) ∧ Aside0 (kq ≤ k) ∧ Aside0 (IsS43 w0 w' g s0_0 x1001_1 s0_2 s0_3 s0_4 s0_5) ∧ Aside0 (KeepBut w w' g none) ∧ Aside0 (Below w0.heap.size w0 w'))
  case atStart => exact ⟨(s0_1), (s0_1), (by first | rfl | (simp; done) | (simp [*]; done)), H', ⟨Nat.le_refl _⟩, ⟨by repeat (first | (with_reducible first | exact HI0.out | apply IsS43.alloc | apply IsS43.drewN | apply IsS43.drew | apply IsS43.set_0 | apply IsS43.set_1 | apply IsS43.set_2 | apply IsS43.set_4) | exact HI0.out)⟩, ⟨by repeat (first | (with_reducible first | exact HK.out | apply KeepBut.set_ | apply keep_drewN | apply keep_drew | apply keep_alloc) | exact HK.out)⟩, ⟨by repeat (first | (with_reducible first | exact HB.out | apply below_alloc | apply pw_below_drewN | apply below_drew1 | refine below_set ?_ (IsS43.ge HI0.out)) | exact HB.out)⟩⟩
  case round =>
    clear H'
    try clear p2
    try clear hcz2_0
    try clear hcz2_1
    try clear hcz2_2
    try clear hcz2_3
    try clear hcz2_4
    try clear hcz2_5
    try clear hfz2_0
    try clear hfz2_1
    try clear hfz2_2
    try clear hfz2_4
    obtain ⟨x3_1, x1001_1, rfl, HA, HK1, HI0, HK, HB⟩ := hrel
    cases gk with
    | zero => exact absurd HA.out (by simp [spec_reader_line.l0])
    | succ k1 =>
      have H := HA.out
      clear HA
      simp only [spec_reader_line.l0] at H
      by_cases c3 : x3_1 < (s0_0.size : Int)
      · rw [if_pos c3] at H
        have c3b0 : decide (x3_1 < (s0_0.size : Int)) = true := decide_eq_true c3
        clear c3
        by_cases c4 : 0 ≤ x3_1
        · rw [if_pos c4] at H
          have c4b0 : decide (0 ≤ x3_1) = true := decide_eq_true c4
          clear c4
          by_cases c6 : (bt s0_0 x3_1) = 10
          · rw [if_pos c6] at H
            have c6b0 : ((bt s0_0 x3_1) == 10) = true := beq_iff_eq.mpr c6
            have c6b1 : ((bt s0_0 x3_1) != 10) = false := bne_eq_false_iff_eq.mpr c6
            clear c6
            by_cases c7 : 0 ≤ x1001_1
            · rw [if_pos c7] at H
              have c7b0 := eq_true c7
              have c7b1 : decide (0 ≤ x1001_1) = true := decide_eq_true c7
              clear c7
              by_cases c8 : x1001_1 ≤ x3_1
              · rw [if_pos c8] at H
                have c8b0 := eq_true c8
                have c8b1 : decide (x1001_1 ≤ x3_1) = true := decide_eq_true c8
                clear c8
                by_cases c9 : x3_1 ≤ (s0_0.size : Int)
                · rw [if_pos c9] at H
                  have c9b0 := eq_true c9
                  have c9b1 : decide (x3_1 ≤ (s0_0.size : Int)) = true := decide_eq_true c9
                  clear c9
                  simp only [Option.some.injEq, Prod.mk.injEq] at H
                  obtain ⟨rfl, rfl, rfl, rfl, rfl⟩ := H
                  obtain ⟨ASz10_3, cSz10_3, ASz10_5, cSz10_5, HGz10, hgz10, HSz10_3, HSz10_5⟩ := HI0.out
                  have hcz10_0 := cellS43_0 HGz10
                  have hcz10_1 := cellS43_1 HGz10
                  have hcz10_2 := cellS43_2 HGz10
                  have hcz10_3 := cellS43_3 HGz10
                  have hcz10_4 := cellS43_4 HGz10
                  have hcz10_5 := cellS43_5 HGz10
                  have hfz10_0 := blk_frozen HGz10 0
                  have hfz10_1 := blk_frozen HGz10 1
                  have hfz10_2 := blk_frozen HGz10 2
                  have hfz10_4 := blk_frozen HGz10 4
                  clear HGz10 hgz10
                  have p5 : 0 ≤ (x3_1 : Int) := of_decide_eq_true (by first | (with_reducible assumption) | assumption)
                  have q5 : x3_1 < (s0_0.size : Int) := of_decide_eq_true (by first | (with_reducible assumption) | assumption)
                  have hx5 := bt_at s0_0 x3_1
                  replace p5 := eq_true p5
                  replace q5 := eq_true q5
                  go_wp2
                  repeat (go_quiet (fail); try go_wp2)
                  go_ret
                  exact ⟨by first | rfl | (simp [errW_none, errW_some] <;> rfl) | (simp [*, errW_none, errW_some] <;> rfl), by repeat (first | (with_reducible first | exact HI0.out | apply IsS43.alloc | apply IsS43.drewN | apply IsS43.drew | apply IsS43.set_0 | apply IsS43.set_1 | apply IsS43.set_2 | apply IsS43.set_4) | exact HI0.out), by repeat (first | (with_reducible first | exact HB.out | apply below_alloc | apply pw_below_drewN | apply below_drew1 | refine below_set ?_ (IsS43.ge HI0.out)) | exact HB.out), by repeat (first | (with_reducible first | exact HK.out | apply KeepBut.set_ | apply keep_drewN | apply keep_drew | apply keep_alloc) | exact HK.out)⟩
                · rw [if_neg c9] at H
                  exact absurd H (by simp)
              · rw [if_neg c8] at H
                exact absurd H (by simp)
            · rw [if_neg c7] at H
              exact absurd H (by simp)
          · rw [if_neg c6] at H
            have c6b0 : ((bt s0_0 x3_1) == 10) = false := beq_eq_false_iff_ne.mpr c6
            have c6b1 : ((bt s0_0 x3_1) != 10) = true := bne_iff_ne.mpr c6
            have H' := Aside0.mk H
            clear H
            obtain ⟨ASz11_3, cSz11_3, ASz11_5, cSz11_5, HGz11, hgz11, HSz11_3, HSz11_5⟩ := HI0.out
            have hcz11_0 := cellS43_0 HGz11
            have hcz11_1 := cellS43_1 HGz11
            have hcz11_2 := cellS43_2 HGz11
            have hcz11_3 := cellS43_3 HGz11
            have hcz11_4 := cellS43_4 HGz11
            have hcz11_5 := cellS43_5 HGz11
            have hfz11_0 := blk_frozen HGz11 0
            have hfz11_1 := blk_frozen HGz11 1
            have hfz11_2 := blk_frozen HGz11 2
            have hfz11_4 := blk_frozen HGz11 4
            clear HGz11 hgz11
            have p5 : 0 ≤ (x3_1 : Int) := of_decide_eq_true (by first | (with_reducible assumption) | assumption)
            have q5 : x3_1 < (s0_0.size : Int) := of_decide_eq_true (by first | (with_reducible assumption) | assumption)
            have hx5 := bt_at s0_0 x3_1
            replace p5 := eq_true p5
            replace q5 := eq_true q5
            go_wp2
            repeat (go_quiet (fail); try go_wp2)
            go_roundg k1
            case measure => have := HK1.out; omega
            case rel => exact ⟨(wrap64 (x3_1 + 1)), (x1001_1), (by first | rfl | (simp; done) | (simp [*]; done)), H', ⟨by have := HK1.out; omega⟩, ⟨by repeat (first | (with_reducible first | exact HI0.out | apply IsS43.alloc | apply IsS43.drewN | apply IsS43.drew | apply IsS43.set_0 | apply IsS43.set_1 | apply IsS43.set_2 | apply IsS43.set_4) | exact HI0.out)⟩, ⟨by repeat (first | (with_reducible first | exact HK.out | apply KeepBut.set_ | apply keep_drewN | apply keep_drew | apply keep_alloc) | exact HK.out)⟩, ⟨by repeat (first | (with_reducible first | exact HB.out | apply below_alloc | apply pw_below_drewN | apply below_drew1 | refine below_set ?_ (IsS43.ge HI0.out)) | exact HB.out)⟩⟩
        · rw [if_neg c4] at H
          exact absurd H (by simp)
      · rw [if_neg c3] at H
        have c3b0 : decide (x3_1 < (s0_0.size : Int)) = false := decide_eq_false c3
        clear c3
        simp only [Option.some.injEq, Prod.mk.injEq] at H
        obtain ⟨rfl, rfl, rfl, rfl, rfl⟩ := H
        obtain ⟨ASz12_3, cSz12_3, ASz12_5, cSz12_5, HGz12, hgz12, HSz12_3, HSz12_5⟩ := HI0.out
        have hcz12_0 := cellS43_0 HGz12
        have hcz12_1 := cellS43_1 HGz12
        have hcz12_2 := cellS43_2 HGz12
        have hcz12_3 := cellS43_3 HGz12
        have hcz12_4 := cellS43_4 HGz12
        have hcz12_5 := cellS43_5 HGz12
        have hfz12_0 := blk_frozen HGz12 0
        have hfz12_1 := blk_frozen HGz12 1
        have hfz12_2 := blk_frozen HGz12 2
        have hfz12_4 := blk_frozen HGz12 4
        clear HGz12 hgz12
        go_wp2
        repeat (go_quiet (fail); try go_wp2)
        go_ret
        exact ⟨by first | rfl | (simp [errW_none, errW_some] <;> rfl) | (simp [*, errW_none, errW_some] <;> rfl), by repeat (first | (with_reducible first | exact HI0.out | apply IsS43.alloc | apply IsS43.drewN | apply IsS43.drew | apply IsS43.set_0 | apply IsS43.set_1 | apply IsS43.set_2 | apply IsS43.set_4) | exact HI0.out), by repeat (first | (with_reducible first | exact HB.out | apply below_alloc | apply pw_below_drewN | apply below_drew1 | refine below_set ?_ (IsS43.ge HI0.out)) | exact HB.out), by repeat (first | (with_reducible first | exact HK.out | apply KeepBut.set_ | apply keep_drewN | apply keep_drew | apply keep_alloc) | exact HK.out)⟩
def spec_reader_ended.f (s0_0 : ByteArray) (s0_1 : Int) (s0_2 : Bool) (s0_3 : Pin) (s0_4 : Int) (s0_5 : Pin) (a1 : ByteArray) : Option (ByteArray × ByteArray × Int × Bool × Int) := if (wrap64 ((s0_0.size : Int) - s0_1)) ≥ 28 then (if 0 ≤ s0_1 then (if s0_1 ≤ (wrap64 (s0_1 + 28)) then (if (wrap64 (s0_1 + 28)) ≤ (s0_0.size : Int) then (if (s0_0.extract (s0_1 : Int).toNat ((wrap64 (s0_1 + 28)) : Int).toNat).toList = ([92, 32, 78, 111, 32, 110, 101, 119, 108, 105, 110, 101, 32, 97, 116, 32, 101, 110, 100, 32, 111, 102, 32, 102, 105, 108, 101, 10] : List UInt8) then (some (a1, s0_0, wrap64 (s0_1 + 28), s0_2, s0_4)) else (if a1.size + 1 ≤ 9223372036854775807 then (some (a1 ++ (⟨#[10]⟩ : ByteArray), s0_0, s0_1, s0_2, s0_4)) else (none))) else (none)) else (none)) else (none)) else (if a1.size + 1 ≤ 9223372036854775807 then (some (a1 ++ (⟨#[10]⟩ : ByteArray), s0_0, s0_1, s0_2, s0_4)) else (none))
set_option maxHeartbeats 8000000 in
set_option maxRecDepth 100000 in
theorem spec_reader_ended.calls (g : Nat) (s0_0 : ByteArray) (s0_1 : Int) (s0_2 : Bool) (s0_3 : Pin) (s0_4 : Int) (s0_5 : Pin) (a1 : ByteArray) (r1 : ByteArray) (r2 : ByteArray) (r3 : Int) (r4 : Bool) (r5 : Int) (w0 w : World) (hI : IsS43 w0 w g s0_0 s0_1 s0_2 s0_3 s0_4 s0_5) (hB : Below w0.heap.size w0 w) (h : spec_reader_ended.f s0_0 s0_1 s0_2 s0_3 s0_4 s0_5 a1 = some (r1, r2, r3, r4, r5)) :
    Calls Tryz.prog 41 #[.pointer (some ⟨g, 0, none⟩), .string a1] w fun e w' => e = .returned (.string r1) ∧ IsS43 w0 w' g r2 r3 r4 s0_3 r5 s0_5 ∧ Below w0.heap.size w0 w' ∧ KeepBut w w' g none := by
  have HI0 := Aside0.mk hI
  have HK := Aside0.mk (KeepBut.refl w g none)
  have HL := Aside0.mk hB.size
  clear hI
  have HW0 := Aside0.mk hB.size
  have HB := Aside0.mk hB
  clear hB
  have H : (if (wrap64 ((s0_0.size : Int) - s0_1)) ≥ 28 then (if 0 ≤ s0_1 then (if s0_1 ≤ (wrap64 (s0_1 + 28)) then (if (wrap64 (s0_1 + 28)) ≤ (s0_0.size : Int) then (if (s0_0.extract (s0_1 : Int).toNat ((wrap64 (s0_1 + 28)) : Int).toNat).toList = ([92, 32, 78, 111, 32, 110, 101, 119, 108, 105, 110, 101, 32, 97, 116, 32, 101, 110, 100, 32, 111, 102, 32, 102, 105, 108, 101, 10] : List UInt8) then (some (a1, s0_0, wrap64 (s0_1 + 28), s0_2, s0_4)) else (if a1.size + 1 ≤ 9223372036854775807 then (some (a1 ++ (⟨#[10]⟩ : ByteArray), s0_0, s0_1, s0_2, s0_4)) else (none))) else (none)) else (none)) else (none)) else (if a1.size + 1 ≤ 9223372036854775807 then (some (a1 ++ (⟨#[10]⟩ : ByteArray), s0_0, s0_1, s0_2, s0_4)) else (none))) = some (r1, r2, r3, r4, r5) := h
  clear h
  by_cases c3 : (wrap64 ((s0_0.size : Int) - s0_1)) ≥ 28
  · rw [if_pos c3] at H
    have c3b0 : decide (28 ≤ (wrap64 ((s0_0.size : Int) - s0_1))) = true := decide_eq_true c3
    clear c3
    by_cases c4 : 0 ≤ s0_1
    · rw [if_pos c4] at H
      have c4b0 := eq_true c4
      have c4b1 : decide (0 ≤ s0_1) = true := decide_eq_true c4
      clear c4
      by_cases c5 : s0_1 ≤ (wrap64 (s0_1 + 28))
      · rw [if_pos c5] at H
        have c5b0 := eq_true c5
        have c5b1 : decide (s0_1 ≤ (wrap64 (s0_1 + 28))) = true := decide_eq_true c5
        by_cases c6 : (wrap64 (s0_1 + 28)) ≤ (s0_0.size : Int)
        · rw [if_pos c6] at H
          have c6b0 := eq_true c6
          have c6b1 : decide ((wrap64 (s0_1 + 28)) ≤ (s0_0.size : Int)) = true := decide_eq_true c6
          by_cases c7 : (s0_0.extract (s0_1 : Int).toNat ((wrap64 (s0_1 + 28)) : Int).toNat).toList = ([92, 32, 78, 111, 32, 110, 101, 119, 108, 105, 110, 101, 32, 97, 116, 32, 101, 110, 100, 32, 111, 102, 32, 102, 105, 108, 101, 10] : List UInt8)
          · rw [if_pos c7] at H
            have c7b0 : ((s0_0.extract (s0_1 : Int).toNat ((wrap64 (s0_1 + 28)) : Int).toNat).toList == ([92, 32, 78, 111, 32, 110, 101, 119, 108, 105, 110, 101, 32, 97, 116, 32, 101, 110, 100, 32, 111, 102, 32, 102, 105, 108, 101, 10] : List UInt8)) = true := beq_iff_eq.mpr c7
            have c7b1 : ((s0_0.extract (s0_1 : Int).toNat ((wrap64 (s0_1 + 28)) : Int).toNat).toList != ([92, 32, 78, 111, 32, 110, 101, 119, 108, 105, 110, 101, 32, 97, 116, 32, 101, 110, 100, 32, 111, 102, 32, 102, 105, 108, 101, 10] : List UInt8)) = false := bne_eq_false_iff_eq.mpr c7
            clear c7
            simp only [Option.some.injEq, Prod.mk.injEq] at H
            obtain ⟨rfl, rfl, rfl, rfl, rfl⟩ := H
            obtain ⟨ASz8_3, cSz8_3, ASz8_5, cSz8_5, HGz8, hgz8, HSz8_3, HSz8_5⟩ := HI0.out
            have hcz8_0 := cellS43_0 HGz8
            have hcz8_1 := cellS43_1 HGz8
            have hcz8_2 := cellS43_2 HGz8
            have hcz8_3 := cellS43_3 HGz8
            have hcz8_4 := cellS43_4 HGz8
            have hcz8_5 := cellS43_5 HGz8
            have hfz8_0 := blk_frozen HGz8 0
            have hfz8_1 := blk_frozen HGz8 1
            have hfz8_2 := blk_frozen HGz8 2
            have hfz8_4 := blk_frozen HGz8 4
            clear HGz8 hgz8
            go_enter Tryz.func41, Tryz.ntmps41
            go_wp2
            repeat (go_quiet (fail); try go_wp2)
            go_ret
            exact ⟨by first | rfl | (simp [errW_none, errW_some] <;> rfl) | (simp [*, errW_none, errW_some] <;> rfl), by repeat (first | (with_reducible first | exact HI0.out | apply IsS43.alloc | apply IsS43.drewN | apply IsS43.drew | apply IsS43.set_0 | apply IsS43.set_1 | apply IsS43.set_2 | apply IsS43.set_4) | exact HI0.out), by repeat (first | (with_reducible first | exact HB.out | apply below_alloc | apply pw_below_drewN | apply below_drew1 | refine below_set ?_ (IsS43.ge HI0.out)) | exact HB.out), by repeat (first | (with_reducible first | exact HK.out | apply KeepBut.set_ | apply keep_drewN | apply keep_drew | apply keep_alloc) | exact HK.out)⟩
          · rw [if_neg c7] at H
            have c7b0 : ((s0_0.extract (s0_1 : Int).toNat ((wrap64 (s0_1 + 28)) : Int).toNat).toList == ([92, 32, 78, 111, 32, 110, 101, 119, 108, 105, 110, 101, 32, 97, 116, 32, 101, 110, 100, 32, 111, 102, 32, 102, 105, 108, 101, 10] : List UInt8)) = false := beq_eq_false_iff_ne.mpr c7
            have c7b1 : ((s0_0.extract (s0_1 : Int).toNat ((wrap64 (s0_1 + 28)) : Int).toNat).toList != ([92, 32, 78, 111, 32, 110, 101, 119, 108, 105, 110, 101, 32, 97, 116, 32, 101, 110, 100, 32, 111, 102, 32, 102, 105, 108, 101, 10] : List UInt8)) = true := bne_iff_ne.mpr c7
            by_cases c9 : a1.size + 1 ≤ 9223372036854775807
            · rw [if_pos c9] at H
              have c9b0 := eq_true c9
              have c9b1 : decide (a1.size + 1 ≤ 9223372036854775807) = true := decide_eq_true c9
              try have c9b2 : (9223372036854775807 < a1.size + 1) = False := eq_false (Nat.not_lt.2 c9)
              simp only [Option.some.injEq, Prod.mk.injEq] at H
              obtain ⟨rfl, rfl, rfl, rfl, rfl⟩ := H
              obtain ⟨ASz10_3, cSz10_3, ASz10_5, cSz10_5, HGz10, hgz10, HSz10_3, HSz10_5⟩ := HI0.out
              have hcz10_0 := cellS43_0 HGz10
              have hcz10_1 := cellS43_1 HGz10
              have hcz10_2 := cellS43_2 HGz10
              have hcz10_3 := cellS43_3 HGz10
              have hcz10_4 := cellS43_4 HGz10
              have hcz10_5 := cellS43_5 HGz10
              have hfz10_0 := blk_frozen HGz10 0
              have hfz10_1 := blk_frozen HGz10 1
              have hfz10_2 := blk_frozen HGz10 2
              have hfz10_4 := blk_frozen HGz10 4
              clear HGz10 hgz10
              go_enter Tryz.func41, Tryz.ntmps41
              go_wp2
              repeat (go_quiet (fail); try go_wp2)
              go_ret
              exact ⟨by first | rfl | (simp [errW_none, errW_some] <;> rfl) | (simp [*, errW_none, errW_some] <;> rfl), by repeat (first | (with_reducible first | exact HI0.out | apply IsS43.alloc | apply IsS43.drewN | apply IsS43.drew | apply IsS43.set_0 | apply IsS43.set_1 | apply IsS43.set_2 | apply IsS43.set_4) | exact HI0.out), by repeat (first | (with_reducible first | exact HB.out | apply below_alloc | apply pw_below_drewN | apply below_drew1 | refine below_set ?_ (IsS43.ge HI0.out)) | exact HB.out), by repeat (first | (with_reducible first | exact HK.out | apply KeepBut.set_ | apply keep_drewN | apply keep_drew | apply keep_alloc) | exact HK.out)⟩
            · rw [if_neg c9] at H
              exact absurd H (by simp)
        · rw [if_neg c6] at H
          exact absurd H (by simp)
      · rw [if_neg c5] at H
        exact absurd H (by simp)
    · rw [if_neg c4] at H
      exact absurd H (by simp)
  · rw [if_neg c3] at H
    have c3b0 : decide (28 ≤ (wrap64 ((s0_0.size : Int) - s0_1))) = false := decide_eq_false c3
    clear c3
    by_cases c11 : a1.size + 1 ≤ 9223372036854775807
    · rw [if_pos c11] at H
      have c11b0 := eq_true c11
      have c11b1 : decide (a1.size + 1 ≤ 9223372036854775807) = true := decide_eq_true c11
      try have c11b2 : (9223372036854775807 < a1.size + 1) = False := eq_false (Nat.not_lt.2 c11)
      simp only [Option.some.injEq, Prod.mk.injEq] at H
      obtain ⟨rfl, rfl, rfl, rfl, rfl⟩ := H
      obtain ⟨ASz12_3, cSz12_3, ASz12_5, cSz12_5, HGz12, hgz12, HSz12_3, HSz12_5⟩ := HI0.out
      have hcz12_0 := cellS43_0 HGz12
      have hcz12_1 := cellS43_1 HGz12
      have hcz12_2 := cellS43_2 HGz12
      have hcz12_3 := cellS43_3 HGz12
      have hcz12_4 := cellS43_4 HGz12
      have hcz12_5 := cellS43_5 HGz12
      have hfz12_0 := blk_frozen HGz12 0
      have hfz12_1 := blk_frozen HGz12 1
      have hfz12_2 := blk_frozen HGz12 2
      have hfz12_4 := blk_frozen HGz12 4
      clear HGz12 hgz12
      go_enter Tryz.func41, Tryz.ntmps41
      go_wp2
      repeat (go_quiet (fail); try go_wp2)
      go_ret
      exact ⟨by first | rfl | (simp [errW_none, errW_some] <;> rfl) | (simp [*, errW_none, errW_some] <;> rfl), by repeat (first | (with_reducible first | exact HI0.out | apply IsS43.alloc | apply IsS43.drewN | apply IsS43.drew | apply IsS43.set_0 | apply IsS43.set_1 | apply IsS43.set_2 | apply IsS43.set_4) | exact HI0.out), by repeat (first | (with_reducible first | exact HB.out | apply below_alloc | apply pw_below_drewN | apply below_drew1 | refine below_set ?_ (IsS43.ge HI0.out)) | exact HB.out), by repeat (first | (with_reducible first | exact HK.out | apply KeepBut.set_ | apply keep_drewN | apply keep_drew | apply keep_alloc) | exact HK.out)⟩
    · rw [if_neg c11] at H
      exact absurd H (by simp)
end Go.Proofs.YtonajgipkpnpoaaGreatDoor.Rd
