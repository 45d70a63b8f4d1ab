/- The law's function. -/
import Derived.Test.YtonajgipkpnpoaaDoorCLw
import Derived.Test.YtonajgipkpnpoaaDoorRdG
namespace Go.Proofs.YtonajgipkpnpoaaDoor.Un
open Go.RowKit Go.Sort Go.Sst Go.Proofs.YtonajgipkpnpoaaDoorW.PrintWords Go.Proofs.YtonajgipkpnpoaaDoorW.PrintLast Go.Proofs.YtonajgipkpnpoaaDoorW.PrintMore Go.Uni
open Go.Proofs.YtonajgipkpnpoaaDoor.QFnToUnifiedReads Go.Proofs.YtonajgipkpnpoaaDoor.SortM Go.Proofs.YtonajgipkpnpoaaDoor.SortU
set_option linter.unusedVariables false
set_option linter.unusedSimpArgs false

theorem lit4_C (W : World) (a b c d : Int) : Kd.C (Kd.int .i64) (W.alloc (.cells #[.int .i64 a, .int .i64 b, .int .i64 c, .int .i64 d] 3)) (some ⟨W.heap.size, 0, none⟩) 4 [a, b, c, d] := by
  refine ⟨rfl, by decide, fun _ => ⟨_, rfl, fun j p hj => ⟨[.int .i64 p], rfl, rfl, fun i u hu => ?_⟩⟩⟩
  have hi : i = 0 := by
    cases i with
    | zero => rfl
    | succ i => simp at hu
  subst hi
  obtain rfl : Value.int .i64 p = u := by simpa using hu
  rw [add_plain, blk_cell (new_obj W _)]
  show #[Value.int .i64 a, .int .i64 b, .int .i64 c, .int .i64 d][j * 1 + 0]? = _
  rw [Nat.mul_one, Nat.add_zero]
  match j, hj with
  | 0, hj => simp at hj; subst hj; rfl
  | 1, hj => simp at hj; subst hj; rfl
  | 2, hj => simp at hj; subst hj; rfl
  | 3, hj => simp at hj; subst hj; rfl
  | j + 4, hj => simp at hj

/-- the form is read back -/
theorem read_form {fa fb c : ByteArray} {es ys : List BE} {ctx : Nat} {U : ByteArray} (hctx : 1 ≤ ctx) (h : Eds c es ys) (hfa : fa.size ≤ 1000000) (hfb : fb.size ≤ 1000000) (hU : formU fa fb c.data.toList ctx ys U) (W : World) :
    Calls Tryd.prog 12 #[.string U, .string fa, .string fb, .string c] W fun e w' => ∃ v, e = .returned (.tuple #[.string (mkS (app c.data.toList ys 0)), v, .bool true]) ∧ Below W.heap.size W w' := by
  have hcl : c.data.toList.length ≤ 1000000 := by rw [data_length]; exact h.c6
  rcases hU with ⟨rfl, rfl⟩ | ⟨ys', hne, hL, rfl⟩
  · refine (read_nil W fa fb c).mono ?_
    rintro e w' ⟨v, L, rfl, _, _, _, hb⟩
    refine ⟨v, ?_, hb⟩
    have : mkS (app c.data.toList [] 0) = c := by show mkS (c.data.toList.drop 0) = c; rw [List.drop_zero, mkS_of]
    rw [this]
  · have ht := lineEd_tells hctx hL h.io hne hcl h.tot (by rw [h.len]; exact h.l6)
    obtain ⟨D, ACC, h1, h2, h3, h4⟩ := ht.run
    have hs := ht.size
    have hn : (rNames fa.data.toList fb.data.toList).length = fa.data.toList.length + fb.data.toList.length + 10 := by unfold rNames; simp only [List.length_append, List.length_cons, List.length_nil]; omega
    have ha2 := data_length fa
    have hb2 := data_length fb
    have hol := ht.ol
    have hne' := ended_ne h3
    have hal := len_flat (L := ACC) (fun l hl => hne' l (by simp [hl]))
    have haf : ACC.flatten.length ≤ (app c.data.toList ys 0).length := by rw [← h4, List.flatten_append, List.length_append]; omega
    have hr := read_calls W (mkS (rNames fa.data.toList fb.data.toList ++ rHks (fin ctx (splitL c.data.toList) (stAt ctx c.data.toList ys' ys'.length)))) fa fb c _ D 4000000 ACC (mkS_toList _) (by rw [mkS_size, List.length_append]; omega) (by omega) (by omega) (by have := h.c6; omega) ht.ne ht.good (by omega) ht.its h1 h2 h3 (by omega) (by have := ht.len; omega) (by rw [h4]; omega)
    refine hr.mono ?_
    rintro e w' ⟨v, L, rfl, _, _, _, hb⟩
    exact ⟨v, by rw [h4], hb⟩

def LawPost (W : World) (e : Ending) (w' : World) : Prop := e = .returned (.bool true) ∧ Below W.heap.size W w'

set_option maxRecDepth 100000 in
set_option maxHeartbeats 2000000 in
theorem law_calls (W : World) (fa fb c : ByteArray) (A : Option Addr) (cap : Nat) (l : List SE) (n : Int) (hn : -9223372036854775808 ≤ n ∧ n ≤ 9223372036854775807) (hr : Kd.C k38 W A l.length l) (hcap : l.length ≤ cap) (ht : Tab W) :
    Calls Tryd.prog 3 #[.string fa, .string fb, .string c, .slice A l.length cap, .int .i64 n] W (LawPost W) := by
  by_cases h0 : (fa.size : Int) > 2147483647
  · clear hr ht hn
    go_enter Tryd.func3, Tryd.ntmps3
    go_wp2_with fail
    go_ret
    exact ⟨rfl, Below.refl _ _⟩
  by_cases h1 : (fb.size : Int) > 2147483647
  · clear hr ht hn
    go_enter Tryd.func3, Tryd.ntmps3
    go_wp2_with fail
    go_ret
    exact ⟨rfl, Below.refl _ _⟩
  by_cases h2 : (c.size : Int) > 2147483647
  · clear hr ht hn
    go_enter Tryd.func3, Tryd.ntmps3
    go_wp2_with fail
    go_ret
    exact ⟨rfl, Below.refl _ _⟩
  obtain ⟨b, hb1, hb2⟩ := fits_ev l
  have hF := laws_zzFits1.calls _ A cap l b W hr hcap hb1
  have HF := Aside0.mk hF
  clear hF hb1
  cases b with
  | false =>
    clear hr ht hn hb2
    go_enter Tryd.func3, Tryd.ntmps3
    go_wp2_with (go_at_call 4; (with_reducible refine HF.out.mono ?_); rintro e w1 ⟨rfl, hb⟩; have HB1 := Aside0.mk hb; clear hb)
    go_ret
    exact ⟨rfl, HB1.out⟩
  | true =>
    have hl := hb2 rfl
    clear hb2
    have HR := Aside0.mk (fun w (hb : Below W.heap.size W w) => Kd.C_below hr hb)
    obtain ⟨v, hv1, hv2, hv3, hv4⟩ := size_ev l hl
    have HSZ := Aside0.mk (fun w (hb : Below W.heap.size W w) => spec_SizeOfEdits.calls _ A cap l v w (Kd.C_below hr hb) hcap hv1)
    obtain ⟨r, hr1, hr2⟩ := long_ev fa.size fb.size c.size v (by omega) (by omega) (by omega) (by omega)
    have HTL := Aside0.mk (fun w : World => spec_TooLong.calls 5 (some ⟨w.heap.size, 0, none⟩) 4 [(fa.size : Int), (fb.size : Int), (c.size : Int), v] r _ (lit4_C w fa.size fb.size c.size v) (by simp) hr1)
    clear hr hv1 hr1
    cases r with
    | true =>
      clear ht hn hr2 hv4
      go_enter Tryd.func3, Tryd.ntmps3
      go_wp2_with (first
        | (go_at_call 4; (with_reducible refine HF.out.mono ?_); rintro e w1 ⟨rfl, hb⟩; have HB1 := Aside0.mk hb; clear hb)
        | (go_at_call 6; (with_reducible refine (HSZ.out _ HB1.out).mono ?_); rintro e w2 ⟨rfl, hb⟩; have HB2 := Aside0.mk (HB1.out.trans (hb.mono HB1.out.size)); clear hb)
        | (go_at_call 5; refine (HTL.out _).mono ?_; rintro e w3 ⟨rfl, hd⟩; have HD := Aside0.mk hd.below; clear hd))
      go_ret
      exact ⟨rfl, (below_alloc HB2.out _).trans (HD.out.mono (by have := HB2.out.size; simp; omega))⟩
    | false =>
      have hsum := hr2 rfl
      have hve := hv4 (by omega)
      have hsz : szE l ≤ 1000000 := by omega
      have hc6 : c.size ≤ 1000000 := by omega
      have hfa : fa.size ≤ 1000000 := by omega
      have hfb : fb.size ≤ 1000000 := by omega
      have HVE := Lib.hid hve
      clear hr2 hv4 hve
      obtain ⟨K, hK⟩ : ∃ K, K = l.length * (l.length + 3) + 1 + l.length := ⟨_, rfl⟩
      obtain ⟨t, ht1, ht2⟩ := told_ev l (c.size : Int) hl K (by omega)
      obtain ⟨ba, hba⟩ := label_ev fa (by omega)
      obtain ⟨bb, hbb⟩ := label_ev fb (by omega)
      have HLA := Aside0.mk (fun w : World => spec_Label.calls _ fa ba w hba)
      have HLB := Aside0.mk (fun w : World => spec_Label.calls _ fb bb w hbb)
      have HCX := Aside0.mk (fun w : World => impl_Context.calls 3 w rfl)
      clear hba hbb
      by_cases hz : t = 0
      · subst hz
        obtain ⟨es, ys, hes, hE⟩ := told_eds c l hc6 hsz (ht2 rfl)
        have hll : l.length = es.length := by rw [hes, List.length_map]
        have hap := apply_ev c es ys hE K (by rw [← hll]; omega) (by rw [← hes]; exact ht1)
        rw [← hes] at hap
        have HAP := Aside0.mk (fun w (hb : Below W.heap.size W w) => spec_ApplyTo.calls K c A cap l _ _ w (HR.out w hb) hcap hap)
        obtain ⟨ctx, hc1, hc2, hc3⟩ := ctx_ev n hn
        have HCT := Aside0.mk (fun w : World => laws_context.calls n (ctx : Int) w hc1)
        have HTU := Aside0.mk (fun w (hb : Below W.heap.size W w) => implTo_calls w fa fb c A cap es ys ctx hc2 hc3 hE hfa hfb (ht.stay hb (Nat.le_refl _)) (by have := HR.out w hb; rwa [hes] at this) (by rw [← hes]; exact hcap))
        have HRD := Aside0.mk (fun (U : ByteArray) (hU : formU fa fb c.data.toList ctx ys U) (w : World) => read_form hc2 hE hfa hfb hU w)
        obtain ⟨S, hS⟩ : ∃ S, S = mkS (app c.data.toList ys 0) := ⟨_, rfl⟩
        rw [← hS] at HAP HRD
        rw [← hes] at HTU
        clear ht2 hE hll hap hes hS ht hn ht1 hc1 hK
        cases ba with
        | false =>
          go_enter Tryd.func3, Tryd.ntmps3
          go_wp2_with (first
            | (go_at_call 4; (with_reducible refine HF.out.mono ?_); rintro e w1 ⟨rfl, hb⟩; have HB1 := Aside0.mk hb; clear hb)
            | (go_at_call 6; (with_reducible refine (HSZ.out _ HB1.out).mono ?_); rintro e w2 ⟨rfl, hb⟩; have HB2 := Aside0.mk (HB1.out.trans (hb.mono HB1.out.size)); clear hb)
            | (go_at_call 5; refine (HTL.out _).mono ?_; rintro e w3 ⟨rfl, hd⟩; have HB3 := Aside0.mk ((below_alloc HB2.out _).trans (hd.below.mono (by have := HB2.out.size; simp; omega))); clear hd)
            | (go_at_call 7; (with_reducible refine (HAP.out _ HB3.out).mono ?_); rintro e w4 ⟨rfl, hb⟩; have HB4 := Aside0.mk (HB3.out.trans (hb.mono HB3.out.size)); clear hb)
            | (go_at_call 8; (with_reducible refine (HLA.out _).mono ?_); rintro e w5 ⟨rfl, hd⟩; have HB5 := Aside0.mk (HB4.out.trans (hd.below.mono HB4.out.size)); clear hd)
            | (go_at_call 9; (with_reducible refine (HCX.out _).mono ?_); rintro e w6 ⟨rfl, hd⟩; have HB6 := Aside0.mk (HB5.out.trans (hd.below.mono HB5.out.size)); clear hd))
          go_ret
          exact ⟨rfl, HB6.out⟩
        | true =>
          cases bb with
          | false =>
            go_enter Tryd.func3, Tryd.ntmps3
            go_wp2_with (first
              | (go_at_call 4; (with_reducible refine HF.out.mono ?_); rintro e w1 ⟨rfl, hb⟩; have HB1 := Aside0.mk hb; clear hb)
              | (go_at_call 6; (with_reducible refine (HSZ.out _ HB1.out).mono ?_); rintro e w2 ⟨rfl, hb⟩; have HB2 := Aside0.mk (HB1.out.trans (hb.mono HB1.out.size)); clear hb)
              | (go_at_call 5; refine (HTL.out _).mono ?_; rintro e w3 ⟨rfl, hd⟩; have HB3 := Aside0.mk ((below_alloc HB2.out _).trans (hd.below.mono (by have := HB2.out.size; simp; omega))); clear hd)
              | (go_at_call 7; (with_reducible refine (HAP.out _ HB3.out).mono ?_); rintro e w4 ⟨rfl, hb⟩; have HB4 := Aside0.mk (HB3.out.trans (hb.mono HB3.out.size)); have hft := trivial; clear hb)
              | (go_at_call 8; have _t := hft; (with_reducible refine (HLA.out _).mono ?_); rintro e w5 ⟨rfl, hd⟩; have HB5 := Aside0.mk (HB4.out.trans (hd.below.mono HB4.out.size)); clear hd hft)
              | (go_at_call 8; (with_reducible refine (HLB.out _).mono ?_); rintro e w6 ⟨rfl, hd⟩; have HB6 := Aside0.mk (HB5.out.trans (hd.below.mono HB5.out.size)); clear hd)
              | (go_at_call 9; (with_reducible refine (HCX.out _).mono ?_); rintro e w7 ⟨rfl, hd⟩; have HB7 := Aside0.mk (HB6.out.trans (hd.below.mono HB6.out.size)); clear hd))
            go_ret
            exact ⟨rfl, HB7.out⟩
          | true =>
            go_enter Tryd.func3, Tryd.ntmps3
            go_wp2_with (first
              | (go_at_call 4; (with_reducible refine HF.out.mono ?_); rintro e w1 ⟨rfl, hb⟩; have HB1 := Aside0.mk hb; clear hb)
              | (go_at_call 6; (with_reducible refine (HSZ.out _ HB1.out).mono ?_); rintro e w2 ⟨rfl, hb⟩; have HB2 := Aside0.mk (HB1.out.trans (hb.mono HB1.out.size)); clear hb)
              | (go_at_call 5; refine (HTL.out _).mono ?_; rintro e w3 ⟨rfl, hd⟩; have HB3 := Aside0.mk ((below_alloc HB2.out _).trans (hd.below.mono (by have := HB2.out.size; simp; omega))); clear hd)
              | (go_at_call 7; (with_reducible refine (HAP.out _ HB3.out).mono ?_); rintro e w4 ⟨rfl, hb⟩; have HB4 := Aside0.mk (HB3.out.trans (hb.mono HB3.out.size)); have hft := trivial; clear hb)
              | (go_at_call 8; have _t := hft; (with_reducible refine (HLA.out _).mono ?_); rintro e w5 ⟨rfl, hd⟩; have HB5 := Aside0.mk (HB4.out.trans (hd.below.mono HB4.out.size)); clear hd hft)
              | (go_at_call 8; (with_reducible refine (HLB.out _).mono ?_); rintro e w6 ⟨rfl, hd⟩; have HB6 := Aside0.mk (HB5.out.trans (hd.below.mono HB5.out.size)); clear hd)
              | (go_at_call 11; (with_reducible refine (HCT.out _).mono ?_); rintro e w7 ⟨rfl, hd⟩; have HB7 := Aside0.mk (HB6.out.trans (hd.below.mono HB6.out.size)); clear hd)
              | (go_at_call 10; (with_reducible refine (HTU.out _ HB7.out).mono ?_); rintro e w8 ⟨U, rfl, hU, hb⟩; have HU := Aside0.mk hU; have HB8 := Aside0.mk (HB7.out.trans (hb.mono HB7.out.size)); clear hb hU)
              | (go_at_call 12; (with_reducible refine (HRD.out _ HU.out _).mono ?_); rintro e w9 ⟨vv, rfl, hb⟩; have HB9 := Aside0.mk (HB8.out.trans (hb.mono HB8.out.size)); clear hb))
            go_ret
            exact ⟨rfl, HB9.out⟩
      · have hap : spec_ApplyTo.f K c l = some (⟨#[]⟩, t) := by unfold spec_ApplyTo.f; rw [ht1, Option.bind_some, if_neg hz]
        have HAP := Aside0.mk (fun w (hb : Below W.heap.size W w) => spec_ApplyTo.calls K c A cap l _ _ w (HR.out w hb) hcap hap)
        have ht0 : (t != 0) = true := by simpa using hz
        clear ht2 hap ht hn ht1 hK hz
        go_enter Tryd.func3, Tryd.ntmps3
        go_wp2_with (first
          | (go_at_call 4; (with_reducible refine HF.out.mono ?_); rintro e w1 ⟨rfl, hb⟩; have HB1 := Aside0.mk hb; clear hb)
          | (go_at_call 6; (with_reducible refine (HSZ.out _ HB1.out).mono ?_); rintro e w2 ⟨rfl, hb⟩; have HB2 := Aside0.mk (HB1.out.trans (hb.mono HB1.out.size)); clear hb)
          | (go_at_call 5; refine (HTL.out _).mono ?_; rintro e w3 ⟨rfl, hd⟩; have HB3 := Aside0.mk ((below_alloc HB2.out _).trans (hd.below.mono (by have := HB2.out.size; simp; omega))); clear hd)
          | (go_at_call 7; (with_reducible refine (HAP.out _ HB3.out).mono ?_); rintro e w4 ⟨rfl, hb⟩; have HB4 := Aside0.mk (HB3.out.trans (hb.mono HB3.out.size)); clear hb)
          | (go_at_call 9; (with_reducible refine (HCX.out _).mono ?_); rintro e w6 ⟨rfl, hd⟩; have HB6 := Aside0.mk (HB4.out.trans (hd.below.mono HB4.out.size)); clear hd))
        go_ret
        exact ⟨rfl, HB6.out⟩
end Go.Proofs.YtonajgipkpnpoaaDoor.Un
