/- (*reader).body: the walk. -/
import Derived.Test.YtonajgipkpnpoaaDoorCRd
import Derived.Test.YtonajgipkpnpoaaDoorCHk
import Derived.WalkSpells
import Derived.Deep.RegionWith
namespace Go.Proofs.YtonajgipkpnpoaaDoor.Un
open Go.RowKit Go.Proofs.YtonajgipkpnpoaaDoorW.PrintWords Go.Proofs.YtonajgipkpnpoaaDoorW.PrintLast Go.Proofs.YtonajgipkpnpoaaDoorW.PrintMore Go.Uni
open Go.Proofs.YtonajgipkpnpoaaDoor.Rd (Pin IsS53)
set_option linter.unusedVariables false
set_option linter.unusedSimpArgs false

/-- what body leaves -/
def BodyPost (w0 W : World) (g gh : Nat) (U : ByteArray) (o y0 : Pin) (p D : Nat) (ACC : List Bs) (h : HkR) (HT : Nat × Nat × Bool) (e : Ending) (w' : World) : Prop :=
  ∃ y, e = .returned (.tuple #[]) ∧ Bo w0 W w' g gh U o y0 y p D ACC h HT.1 HT.2.1

theorem gr_drew' {w w1 : World} {row : Option Nat} (h : w.grownBy w1 row) : w.drew.grownBy w1 row := ⟨h.os, h.tape, h.output, h.size, h.block⟩
theorem fromC_k1 {i : It} (t : List It) (h : i.k = 1) : fromC (i :: t) = fromC t := by rw [fromC_cons, if_pos h, Nat.zero_add]
theorem fromC_k {i : It} (t : List It) (h : i.k ≠ 1) : fromC (i :: t) = fromC t + 1 := by rw [fromC_cons, if_neg h, Nat.add_comm]
theorem toC_k0 {i : It} (t : List It) (h : i.k = 0) : toC (i :: t) = toC t := by rw [toC_cons, if_pos h, Nat.zero_add]
theorem toC_k {i : It} (t : List It) (h : i.k ≠ 0) : toC (i :: t) = toC t + 1 := by rw [toC_cons, if_neg h, Nat.add_comm]
theorem rIts_cons (i : It) (t : List It) : rIts (i :: t) = rIt i ++ rIts t := by simp [rIts]

/-- no line of a hunk begins with a backslash -/
theorem rIts_head {its : List It} {rest : Bs} (hr : ∀ c t, rest = c :: t → c ≠ 92) : ∀ c t, rIts its ++ rest = c :: t → c ≠ 92 := by
  cases its with
  | nil => exact hr
  | cons i t =>
    intro c s he
    rw [rIts_cons] at he
    simp only [rIt, List.cons_append, List.cons.injEq] at he
    rw [← he.1]
    unfold sign
    split <;> (try split) <;> decide

theorem drop_le {u : ByteArray} {p : Nat} {r : Bs} (h : u.data.toList.drop p = r) (hne : r ≠ []) : p ≤ u.size := by
  rw [← data_length]
  rcases Nat.lt_or_ge u.data.toList.length p with h1 | h1
  · rw [List.drop_eq_nil_of_le (by omega)] at h; exact absurd h.symm hne
  · exact h1

theorem run_len {L : List Bs} : ∀ {its : List It} {d : Nat} {acc : List Bs} {D : Nat} {ACC : List Bs}, run L its d acc = some (D, ACC) → acc.length ≤ ACC.length
  | [], d, acc, D, ACC, h => by
    injection h with h
    injection h with h1 h2
    rw [h2]; exact Nat.le_refl _
  | i :: t, d, acc, D, ACC, h => by
    unfold run at h
    by_cases hk : i.k = 1
    · rw [if_pos hk] at h
      have := run_len h
      simp at this; omega
    · rw [if_neg hk] at h
      by_cases hd : L[d]? = some i.l
      · rw [if_pos hd] at h
        have := run_len h
        split at this
        · exact this
        · simp at this; omega
      · rw [if_neg hd] at h; cases h

set_option maxRecDepth 100000 in
set_option maxHeartbeats 8000000 in
theorem body_calls (w0 W : World) (g gh : Nat) (U : ByteArray) (o y0 : Pin) (p D : Nat) (d : Nat) (acc ACC : List Bs) (h : HkR) (L : List Bs) (rest : Bs) (HT : Nat × Nat × Bool)
    (hw : w0.heap.size ≤ W.heap.size) (hU : U.size ≤ 1000000000000000) (hO : w0.ownsRow 0 9 1 (pv o) L.length (rowS L)) (hoL : o.n = L.length) (hL : L.length ≤ 1099511627776)
    (hB : Bo w0 W W g gh U o y0 y0 p d acc h 0 0) (hln : ∀ i ∈ h.its, Line i.l ∧ i.k ≤ 2) (hrun : run L h.its d acc = some (D, ACC)) (hht : ht h.its (0, 0, false) = HT) (hdr : U.data.toList.drop p = rIts h.its ++ rest) (hrest : ∀ c t, rest = c :: t → c ≠ 92) (hacc : ACC.length ≤ 1000000000000) (hits : h.its.length ≤ 1000000000000) :
    Calls Tryd.prog 28 #[.pointer (some ⟨g, 0, none⟩), .pointer (some ⟨gh, 0, none⟩)] W fun e w' => BodyPost w0 W g gh U o y0 (p + (rIts h.its).length) D ACC h HT e w' := by
  have HB := Aside0.mk hB
  have HO := Aside0.mk hO
  clear hB hO
  go_enter Tryd.func28, Tryd.ntmps28
  go_wp2_with fail
  go_loopg [4, 5, 6] h.its.length (fun gk v4 v5 v6 wr => ∃ (pr rem : List It) (d : Nat) (acc : List Bs) (y : Pin) (q a b : Nat) (ch : Bool), h.its = pr ++ rem ∧ gk = rem.length ∧ v4 = .int .i64 (fromC pr : Int) ∧ v5 = .int .i64 (toC pr : Int) ∧ v6 = .bool ch ∧ q + (rIts rem).length = p + (rIts h.its).length ∧ a + b ≤ pr.length ∧ Hid (run L rem d acc = some (D, ACC)) ∧ Hid (ht rem (a, b, ch) = HT) ∧ Hid (U.data.toList.drop q = rIts rem ++ rest) ∧ Aside0 (Bo w0 W wr g gh U o y0 y q d acc h a b))
  case atStart => exact ⟨[], h.its, d, acc, y0, p, 0, 0, false, rfl, rfl, rfl, rfl, rfl, rfl, Nat.le_refl _, Lib.hid hrun, Lib.hid hht, Lib.hid hdr, ⟨HB.out⟩⟩
  case round =>
    obtain ⟨pr, rem, d, acc, y, q, a, b, ch, hi, rfl, rfl, rfl, rfl, hq, hab, HR, HH, HD, HA⟩ := hrel
    clear hrun hht hdr
    have cg := HA.out.rs.blk.1
    have c2 : wr.cell? ⟨g, 2, none⟩ = some (.bool false) := blk_cell cg 2
    have f2 : wr.frozen? ⟨g, 2, none⟩ = false := blk_frozen cg 2
    have ch1 : wr.cell? ⟨gh, 1, none⟩ = some (.int .i64 (fromC h.its : Int)) := blk_cell HA.out.hb 1
    have ch3 : wr.cell? ⟨gh, 3, none⟩ = some (.int .i64 (toC h.its : Int)) := blk_cell HA.out.hb 3
    clear cg
    have hfp : fromC h.its = fromC pr + fromC rem := by rw [hi, fromC_append]
    have htp : toC h.its = toC pr + toC rem := by rw [hi, toC_append]
    cases rem with
    | nil =>
      have HI := Lib.hid hi
      clear hi
      have e1 : fromC h.its = fromC pr := hfp
      have e2 : toC h.its = toC pr := htp
      rw [e1] at ch1
      rw [e2] at ch3
      clear hfp htp e1 e2
      go_wp2_with fail
      -- <n
      refine bodyPost_ret (results_none rfl _ _ _) rfl ?_
      have hR := HR.out
      have hH := HH.out
      injection hR with hR
      injection hR with hR1 hR2
      subst hR1 hR2
      have hq2 : q = p + (rIts h.its).length := by rw [← hq]; rfl
      rw [← hq2, ← hH]
      exact ⟨y, rfl, HA.out.bad⟩
      -- n>
    | cons i t =>
      obtain ⟨hl1, hl2⟩ := hln i (by rw [hi]; simp)
      obtain ⟨b', tl', e1, e2, e3⟩ := rIt_parts i hl1
      have hd1 : U.data.toList.drop q = (sign i.k :: b') ++ 10 :: (tl' ++ (rIts t ++ rest)) := by rw [HD.out, rIts_cons, e1]; simp
      have hev := Rd.line_ev U q o y (d : Int) _ _ hU hd1 e2 _ (Nat.lt_succ_self _)
      have hLn := Rd.spec_reader_line.calls _ g _ _ _ _ _ _ _ _ _ _ _ w0 wr HA.out.rs.is HA.out.rs.bl hev
      have hd2 : U.data.toList.drop (q + (sign i.k :: b').length + 1) = tl' ++ (rIts t ++ rest) := by
        have := Rd.drop_more (a := (sign i.k :: b') ++ [10]) (r := tl' ++ (rIts t ++ rest)) (by rw [hd1]; simp)
        simpa [Nat.add_assoc] using this
      have hq1 := Rd.drop_size (a := (sign i.k :: b') ++ [10]) (r := tl' ++ (rIts t ++ rest)) (u := U) (p := q) (by rw [hd1]; simp) (by simp)
      simp only [List.length_append, List.length_cons, List.length_nil] at hq1
      obtain ⟨q1, hq2⟩ : ∃ q1, q1 = q + (sign i.k :: b').length + 1 := ⟨_, rfl⟩
      have hq3 : q1 ≤ U.size := by rw [hq2, List.length_cons]; omega
      rw [← hq2] at hd2 hLn
      have hb' : b'.length ≤ 1000000000000000 := by omega
      have hen := ended_both U q1 o y (d : Int) b' tl' i.l _ hU hq3 hd2 (rIts_head hrest) hb' e3
      obtain ⟨q3, hq4⟩ : ∃ q3, q3 = q1 + tl'.length := ⟨_, rfl⟩
      rw [← hq4] at hen
      have HEN := Aside0.mk hen
      have hq5 : q3 = q + (rIt i).length := by rw [hq4, hq2, e1]; simp; omega
      have hq6 : q3 + (rIts t).length = p + (rIts h.its).length := by rw [← hq, hq5, rIts_cons, List.length_append]; omega
      have hd3 : U.data.toList.drop q3 = rIts t ++ rest := by rw [hq5]; exact Rd.drop_more (by rw [HD.out, rIts_cons, List.append_assoc])
      have HD3 := Lib.hid hd3
      have hi3 : h.its = (pr ++ [i]) ++ t := by rw [hi]; simp
      have HI3 := Lib.hid hi3
      have HQ6 := Lib.hid hq6
      clear hd3 hi3 hq5 hq6
      obtain ⟨s, hs⟩ : ∃ s : ByteArray, s = ⟨(sign i.k :: b').toArray⟩ := ⟨_, rfl⟩
      rw [← hs] at hLn
      have s1 : 0 < s.size := by rw [hs]; simp [ByteArray.size]
      have s2 : s.toList.isEmpty = false := by rw [toList_data, hs]; rfl
      have s3 : s[0]'s1 = sign i.k := by subst hs; rfl
      have s4 : s.extract 1 s.size = mkS b' := by
        apply ByteArray.ext
        apply Array.ext'
        rw [ext_toList, mkS_toList, ← data_length, List.take_length, hs]
        rfl
      have HS := Lib.hid hs
      have HLN := Aside0.mk hLn
      have hfpi : fromC h.its = fromC pr + fromC (i :: t) := hfp
      have htpi : toC h.its = toC pr + toC (i :: t) := htp
      have HI := Lib.hid hi
      clear hen hs hLn hev hd1 hd2 hi
      go_upto_region 1 with fail
      go_cut [30] (fun v30 wx => v30 = .bool true ∧ wx = wr)
      case first => as_aux_lemma =>
        -- <a
        by_cases hlt : fromC pr < fromC h.its
        · clear hfp htp hfpi htpi
          go_wp2_with fail
          go_meet
          case rel => exact ⟨by first | rfl | simp [hlt], rfl⟩
        · have j2 : toC pr < toC h.its := by
            by_cases hk : i.k = 1
            · rw [toC_k t (by omega)] at htp; omega
            · rw [fromC_k t hk] at hfp; omega
          clear hfp htp hfpi htpi
          go_wp2_with fail
          go_meet
          case rel => exact ⟨by first | rfl | simp [hlt, j2], rfl⟩
        -- a>
      case rest =>
        obtain ⟨rfl, rfl⟩ := hcut
        go_upto_region 5 with (go_at_call 38; (with_reducible refine HLN.out.mono ?_); rintro e w5 ⟨rfl, hi5, hb5, hk5⟩; have HA5 := Aside0.mk (HA.out.call hi5 hb5 hk5); have c25 : w5.cell? ⟨g, 2, none⟩ = some (.bool false) := blk_cell HA5.out.rs.blk.1 2)
        go_cut [8, 9] (fun v8 v9 wx => v8 = .int .u8 ((sign i.k).toNat : Int) ∧ v9 = .string (mkS i.l) ∧ Aside0 (Bo w0 W wx g gh U o y0 y q3 d acc h a b))
        case first =>
          -- <b
          go_region_with (go_at_call 39; (with_reducible refine (Rd.spec_reader_ended.calls g _ _ _ _ _ _ _ _ _ _ _ _ w0 _ ?side1 ?side2 HEN.out).mono ?_); (case side1 => exact (HA5.out.keep (Fr.drew_ _ _)).rs.is); (case side2 => exact (HA5.out.keep (Fr.drew_ _ _)).rs.bl); rintro e w6 ⟨rfl, hi6, hb6, hk6⟩; have HA6 := Aside0.mk ((HA5.out.keep (Fr.drew_ _ _)).call hi6 hb6 hk6); clear hi6 hb6 hk6)
          all_goals (go_wp2_with fail; go_meet; exact ⟨by first | rfl | rw [s3], rfl, ⟨HA6.out⟩⟩)
          -- b>
        case rest => as_aux_lemma =>
          obtain ⟨rfl, rfl, HA6⟩ := hcut
          clear c2 f2 ch1 ch3 hq1 hq2 hq3 hq4
          clear HEN HA HLN
          obtain ⟨yA, yn, yc⟩ := y
          obtain rfl : yn = acc.length := HA6.out.rs.yn
          have cg := HA6.out.rs.blk.1
          have c2 : wc.cell? ⟨g, 2, none⟩ = some (.bool false) := blk_cell cg 2
          have c3 : wc.cell? ⟨g, 3, none⟩ = some (.slice o.A o.n o.c) := blk_cell cg 3
          have c4 : wc.cell? ⟨g, 4, none⟩ = some (.int .i64 (d : Int)) := blk_cell cg 4
          have c5 : wc.cell? ⟨g, 5, none⟩ = some (.slice yA acc.length yc) := blk_cell cg 5
          have f4 : wc.frozen? ⟨g, 4, none⟩ = false := blk_frozen cg 4
          have f5 : wc.frozen? ⟨g, 5, none⟩ = false := blk_frozen cg 5
          have k4 : wc.cell? ⟨gh, 4, none⟩ = some (.int .i64 (a : Int)) := blk_cell HA6.out.hb 4
          have k5 : wc.cell? ⟨gh, 5, none⟩ = some (.int .i64 (b : Int)) := blk_cell HA6.out.hb 5
          have z4 : wc.frozen? ⟨gh, 4, none⟩ = false := blk_frozen HA6.out.hb 4
          have z5 : wc.frozen? ⟨gh, 5, none⟩ = false := blk_frozen HA6.out.hb 5
          have hgne := HA6.out.ne
          have hlen : fromC h.its ≤ h.its.length ∧ toC h.its ≤ h.its.length := ⟨List.length_filter_le _ _, List.length_filter_le _ _⟩
          have hlp : pr.length ≤ h.its.length := by rw [HI3.out]; simp
          have hal := run_len HR.out
          have hR := HR.out
          have hH := HH.out
          unfold run at hR
          unfold ht at hH
          clear cg
          have hk3 : i.k = 0 ∨ i.k = 1 ∨ i.k = 2 := by omega
          rcases hk3 with hk | hk | hk
          · as_aux_lemma =>
            -- <1
            rw [if_neg (by omega)] at hR
            rw [if_neg (by omega)] at hH
            have hLd : L[d]? = some i.l := Classical.byContradiction fun hn => by rw [if_neg hn] at hR; cases hR
            rw [if_pos hLd, if_pos hk] at hR
            have hdl : d < L.length := (List.getElem?_eq_some_iff.1 hLd).1
            obtain ⟨go, oc, hv, hcl, _⟩ := own_get (HA6.out.old HO.out) d (.string (mkS i.l)) (by unfold rowS; rw [List.getElem?_map, hLd]; rfl)
            unfold pv at hv
            injection hv with hv1 hv2 hv3
            rw [hv1, hv2] at c3
            clear hv1 hv2 hv3
            have HB7 : Aside0 (∀ nq, Bo w0 W ((wc.drewN nq).setCell ⟨g, 4, none⟩ (.int .i64 ((d : Int) + 1))) g gh U o y0 ⟨yA, acc.length, yc⟩ q3 (d + 1) acc h a b) := ⟨fun nq => by rw [show (d : Int) + 1 = ((d + 1 : Nat) : Int) by omega]; exact (HA6.out.keep (Fr.drewN_ _ nq _)).done (d + 1)⟩
            have hsg : sign i.k = 45 := by unfold sign; rw [if_pos hk]
            rw [hsg]
            have HR2 := Lib.hid hR
            have HH2 := Lib.hid hH
            clear hR hH hLd
            go_wp2_with fail
            go_quiet (fail)
            go_wp2_with fail
            go_roundg t.length
            case rel =>
              exact ⟨pr ++ [i], t, d + 1, acc, _, q3, a, 0, true, HI3.out, rfl, by rw [fromC_append, fromC_k [] (by omega)]; go_num, by rw [toC_append, toC_k0 [] hk]; rfl, rfl, HQ6.out, by rw [List.length_append]; simp; omega, HR2, HH2, HD3, ⟨(HB7.out _).setH (a' := a) (b' := 0) 5 (.int .i64 0) (by rfl)⟩⟩
            case measure => simp
            -- 1>
          · as_aux_lemma =>
            -- <2
            rw [if_pos hk] at hR
            rw [if_neg (by omega)] at hH
            have hsg : sign i.k = 43 := by unfold sign; rw [if_neg (by omega), if_pos hk]
            rw [hsg]
            have HR2 := Lib.hid hR
            have HH2 := Lib.hid hH
            obtain ⟨iS, hiS, hzS0, hzS1, hzS2⟩ := info_parts info_string
            have hgs : g < wc.heap.size := (Array.getElem?_eq_some_iff.1 HA6.out.rs.blk.1).1
            have hws : w0.heap.size ≤ wc.heap.size := HA6.out.rs.bl.size
            have hneg : (Value.slice yA acc.length yc).ownBlock ≠ some g := own_ne_blk HA6.out.rs.out HA6.out.rs.blk.1 (by decide)
            clear hR hH
            go_wp2_with (at_builtin; refine wpList_append_lies _ (by rfl) (.tmp 104) (.tmp 106) 50 (by rfl) w0.heap.size 9 iS _ 1 16 Tryd.underlying50 hiS hzS0 hzS1 hzS2 (by rfl) (by decide) _ _ _ (by rfl) (own_alloc HA6.out.rs.out _) ⟨wc.heap.size, 0, none⟩ 1 1 [.string (mkS i.l)] (by rfl) (by rfl) ?h1 ?h2 ?h25 ?h3 ?h4 ?h5 _ rfl ?_; (case h1 => exact new_cells wc _ _); (case h2 => intro u hu; simp at hu; subst hu; rfl); (case h25 => decide); (case h3 => unfold maxLen; omega); (case h4 => omega); (case h5 => simp; omega); intro gg cap2 w1 hown1 hgrow hat hlt1; have B8 := HA6.out.push hw rfl (gr_drew' hgrow) hown1 (hat.imp id (fun h => h.trans (by simp))); have c8 := cell_after (gr_drew' hgrow) c5 hneg; have f8 := frz_after (gr_drew' hgrow) f5 hgs hneg; have f9 := blk_frozen B8.hb 5; have c9 := (blk_cell B8.hb 5).trans (show (hkB h a b)[5]? = some (.int .i64 (b : Int)) from rfl); have HB8 := Aside0.mk B8; clear hown1 hgrow hat B8)
            go_roundg t.length
            case rel =>
              have h8 := HB8.out.setH (a' := a) (b' := 0) 5 (.int .i64 0) (by rfl)
              exact ⟨pr ++ [i], t, d, acc ++ [i.l], _, q3, a, 0, true, HI3.out, rfl, by rw [fromC_append, fromC_k1 [] hk]; rfl, by rw [toC_append, toC_k [] (by omega)]; go_num, rfl, HQ6.out, by rw [List.length_append]; simp; omega, HR2, HH2, HD3, ⟨h8⟩⟩
            case measure => simp
            -- 2>
          · as_aux_lemma =>
            -- <3
            rw [if_neg (by omega)] at hR
            rw [if_pos hk] at hH
            have hLd : L[d]? = some i.l := Classical.byContradiction fun hn => by rw [if_neg hn] at hR; cases hR
            rw [if_pos hLd, if_neg (by omega)] at hR
            have hdl : d < L.length := (List.getElem?_eq_some_iff.1 hLd).1
            obtain ⟨go, oc, hv, hcl, _⟩ := own_get (HA6.out.old HO.out) d (.string (mkS i.l)) (by unfold rowS; rw [List.getElem?_map, hLd]; rfl)
            unfold pv at hv
            injection hv with hv1 hv2 hv3
            rw [hv1, hv2] at c3
            clear hv1 hv2 hv3
            have HB7 : Aside0 (∀ nq, Bo w0 W ((wc.drewN nq).setCell ⟨g, 4, none⟩ (.int .i64 ((d : Int) + 1))) g gh U o y0 ⟨yA, acc.length, yc⟩ q3 (d + 1) acc h a b) := ⟨fun nq => by rw [show (d : Int) + 1 = ((d + 1 : Nat) : Int) by omega]; exact (HA6.out.keep (Fr.drewN_ _ nq _)).done (d + 1)⟩
            have hsg : sign i.k = 32 := by unfold sign; rw [if_neg (by omega), if_neg (by omega)]
            rw [hsg]
            obtain ⟨iS, hiS, hzS0, hzS1, hzS2⟩ := info_parts info_string
            have HR2 := Lib.hid hR
            clear hR hLd
            go_upto_region 11 with fail
            go_quiet (fail)
            go_upto_region 11 with fail
            have HB7 := Aside0.mk (HB7.out nq)
            obtain ⟨wd, hwd⟩ : ∃ wd, wd = (wc.drewN nq).setCell ⟨g, 4, none⟩ (.int .i64 ((d : Int) + 1)) := ⟨_, rfl⟩
            rw [← hwd] at HB7 ⊢
            have HWD := Lib.hid hwd
            clear hwd c2 c3 c4 c5 f4 f5 hcl k4 k5 z4 z5
            have cg := HB7.out.rs.blk.1
            have c5 : wd.cell? ⟨g, 5, none⟩ = some (.slice yA acc.length yc) := blk_cell cg 5
            have f5 : wd.frozen? ⟨g, 5, none⟩ = false := blk_frozen cg 5
            have hgs : g < wd.heap.size := (Array.getElem?_eq_some_iff.1 cg).1
            have hws : w0.heap.size ≤ wd.heap.size := HB7.out.rs.bl.size
            have hneg : (Value.slice yA acc.length yc).ownBlock ≠ some g := own_ne_blk HB7.out.rs.out cg (by decide)
            clear cg
            go_upto_region 15 with (at_builtin; refine wpList_append_lies _ (by rfl) (.tmp 104) (.tmp 106) 50 (by rfl) w0.heap.size 9 iS _ 1 16 Tryd.underlying50 hiS hzS0 hzS1 hzS2 (by rfl) (by decide) _ _ _ (by rfl) (own_alloc HB7.out.rs.out _) ⟨wd.heap.size, 0, none⟩ 1 1 [.string (mkS i.l)] (by rfl) (by rfl) ?h1 ?h2 ?h25 ?h3 ?h4 ?h5 _ rfl ?_; (case h1 => exact new_cells wd _ _); (case h2 => intro u hu; simp at hu; subst hu; rfl); (case h25 => decide); (case h3 => unfold maxLen; omega); (case h4 => omega); (case h5 => simp; omega); intro gg cap2 w1 hown1 hgrow hat hlt1; have B8 := HB7.out.push hw rfl (gr_drew' hgrow) hown1 (hat.imp id (fun h => h.trans (by simp))); have c8 := cell_after (gr_drew' hgrow) c5 hneg; have f8 := frz_after (gr_drew' hgrow) f5 hgs hneg; have f9 := blk_frozen B8.hb 5; have f10 := blk_frozen B8.hb 4; have c9 := (blk_cell B8.hb 5).trans (show (hkB h a b)[5]? = some (.int .i64 (b : Int)) from rfl); have c10 := (blk_cell B8.hb 4).trans (show (hkB h a b)[4]? = some (.int .i64 (a : Int)) from rfl); have HB8 := Aside0.mk B8; clear hown1 hgrow hat B8)
            cases ch with
            | true =>
              have HH2 := Lib.hid hH
              clear hH
              go_wp2_with fail
              go_roundg t.length
              case rel =>
                have h8 := HB8.out.setH (a' := a) (b' := b + 1) 5 (.int .i64 ((b : Int) + 1)) (by unfold hkB; rw [show ((b + 1 : Nat) : Int) = (b : Int) + 1 by omega]; rfl)
                exact ⟨pr ++ [i], t, d + 1, acc ++ [i.l], _, q3, a, b + 1, true, HI3.out, rfl, by rw [fromC_append, fromC_k [] (by omega)]; go_num, by rw [toC_append, toC_k [] (by omega)]; go_num, rfl, HQ6.out, by rw [List.length_append]; simp; omega, HR2, HH2, HD3, ⟨h8⟩⟩
              case measure => simp
            | false =>
              have HH2 := Lib.hid hH
              clear hH
              go_wp2_with fail
              go_roundg t.length
              case rel =>
                have h8 := HB8.out.setH (a' := a + 1) (b' := b) 4 (.int .i64 ((a : Int) + 1)) (by unfold hkB; rw [show ((a + 1 : Nat) : Int) = (a : Int) + 1 by omega]; rfl)
                exact ⟨pr ++ [i], t, d + 1, acc ++ [i.l], _, q3, a + 1, b, false, HI3.out, rfl, by rw [fromC_append, fromC_k [] (by omega)]; go_num, by rw [toC_append, toC_k [] (by omega)]; go_num, rfl, HQ6.out, by rw [List.length_append]; simp; omega, HR2, HH2, HD3, ⟨h8⟩⟩
              case measure => simp
            -- 3>
end Go.Proofs.YtonajgipkpnpoaaDoor.Un
