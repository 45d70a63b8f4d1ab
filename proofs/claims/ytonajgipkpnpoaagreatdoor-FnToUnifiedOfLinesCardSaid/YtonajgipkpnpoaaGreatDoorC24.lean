/- twolcs: both ways back, joined. Printed by wip/gen/gentw.py. -/
import Derived.Test.YtonajgipkpnpoaaGreatDoorC23
namespace Go.Proofs.YtonajgipkpnpoaaGreatDoor.Gr
open Go.RowKit Go.Proofs.YtonajgipkpnpoaaGreatDoorW.PrintWords Go.Myers
set_option linter.unusedVariables false
section
variable {c : Cx} {w : World} {df db : Nat} {Kf Kb : Int → Prop}
theorem gs_labF1 {X Y : Nat} (h : GS c X Y w (df + 1) Kf (db + 1) Kb) (kv k : Int) (e : kv = k) (hd : 1 ≤ df) (hn : df ≤ 1000000) (hv : valid (df - 1) k) :
    Calls Tryz.prog 97 #[.pointer (some ⟨c.ge, 1, none⟩), .int .i64 ((df : Int) - 1), .int .i64 kv] w fun e w' => e = .returned (.int .i64 (flab c.E X Y (df - 1) k)) ∧ w = w' := by
  subst e
  have := gs_labF h (df - 1) kv (by omega) hv (by omega)
  rwa [show ((df - 1 : Nat) : Int) = (df : Int) - 1 by omega] at this
theorem gs_labB1 {X Y : Nat} (h : GS c X Y w (df + 1) Kf (db + 1) Kb) (kv k : Int) (e : kv = k) (hd : 1 ≤ db) (hn : db ≤ 1000000) (hv : valid (db - 1) k) :
    Calls Tryz.prog 97 #[.pointer (some ⟨c.ge, 2, none⟩), .int .i64 ((db : Int) - 1), .int .i64 kv] w fun e w' => e = .returned (.int .i64 (lab c.E c.N c.dl (db - 1) k)) ∧ w = w' := by
  subst e
  have := gs_labB h (db - 1) kv (by omega) hv (by omega)
  rwa [show ((db - 1 : Nat) : Int) = (db : Int) - 1 by omega] at this
theorem tw_F (ho : c.ok) (h : GS c c.N c.M w (df + 1) Kf (db + 1) Kb) (d : Nat) (dv k kv x y : Int) (hd : d ≤ df) (hn : df ≤ 1000000) (hv : valid d k) (e1 : dv = d) (e2 : kv = k) (ex : flab c.E c.N c.M d k = x) (ey : x - k = y) (h0 : x ≤ c.N) (h1 : y ≤ c.M) :
    Calls Tryz.prog 84 #[.pointer (some ⟨c.ge, 0, none⟩), .int .i64 dv, .int .i64 kv] w fun e w' => ∃ v l, e = .returned v ∧ DgRow w' w.heap.size v l ∧ Below w.heap.size w w' ∧ Chain c.E x.toNat y.toNat l 0 0 := by
  subst e1 e2 ex ey
  exact gs_lcsF ho h (Nat.le_refl _) (Nat.le_refl _) d _ (by omega) hv (by omega) h0 h1
theorem tw_B (ho : c.ok) (h : GS c c.N c.M w (df + 1) Kf (db + 1) Kb) (d : Nat) (dv k kv x y : Int) (hd : d ≤ db) (hn : db ≤ 1000000) (hv : valid d k) (e1 : dv = d) (e2 : kv = k) (ex : lab c.E c.N c.dl d k = x) (ey : x - (k + c.dl) = y) (h0 : 0 ≤ x) (h1 : 0 ≤ y) :
    Calls Tryz.prog 85 #[.pointer (some ⟨c.ge, 0, none⟩), .int .i64 dv, .int .i64 kv] w fun e w' => ∃ v l, e = .returned v ∧ DgRow w' w.heap.size v l ∧ Below w.heap.size w w' ∧ Chain c.E c.N c.M l x y := by
  subst e1 e2 ex ey
  exact gs_lcsB ho h d _ (by omega) hv (by omega) h0 h1
set_option maxRecDepth 100000 in
set_option maxHeartbeats 8000000 in
theorem two_lcs (ho : c.ok) (h : GS c c.N c.M w (df + 1) Kf (db + 1) Kb) (hdf : df ≤ 100000) (hdb : db ≤ 100000) {k : Int} (hm : Met2 c.E c.N c.M df db k) (hbf : Before2 c.E c.N c.M df db) :
    Calls Tryz.prog 79 #[.pointer (some ⟨c.ge, 0, none⟩), .int .i64 df, .int .i64 db, .int .i64 k] w fun e w' => TwPost c e w' := by
  have hvf := hm.vf
  have hvb : valid db (k - c.dl) := hm.vb
  have hdl := ho.dl
  have hN := ho.hN
  have hM := ho.hM
  have hin := hm.inside hbf
  have hsm := hbf.sums hm.vf hm.vb
  rw [show (c.N : Int) - c.M = c.dl from rfl] at hin hsm
  have hF0 := gs_labF h df k (by omega) hvf (by omega)
  have hB0 := gs_labB h db (k - c.dl) (by omega) hvb (by omega)
  have bx := flab_bnd (c := c) (X := c.N) (Y := c.M) hvf (by omega) hN
  have bu := lab_bnd ho hvb (by omega)
  obtain ⟨-, c4, c5, c6, c7, c8⟩ := gs_cells h
  unfold Go.Myers.Spec at hin
  rw [show (c.N : Int) - c.M = c.dl from rfl] at hin
  generalize hx : flab c.E c.N c.M df k = x at hF0 bx hin hsm
  generalize hu : lab c.E c.N c.dl db (k - c.dl) = u at hB0 bu hin hsm
  have HX := Aside0.mk hx
  have HU := Aside0.mk hu
  have bk : -100000 ≤ k ∧ k ≤ 100000 := by obtain ⟨a, b, _⟩ := hvf; omega
  obtain ⟨bx1, bx2, bx3⟩ := bx
  obtain ⟨bu1, bu2, bu3⟩ := bu
  obtain ⟨bk1, bk2⟩ := bk
  obtain ⟨sm1, sm2⟩ := hsm
  have bu4 : u - k ≤ c.M := by omega
  clear bu3
  have HIN := Aside0.mk hin
  have HVF := Aside0.mk hvf
  have HVB := Aside0.mk hvb
  have HO := Aside0.mk ho
  have HG := Aside0.mk h
  obtain ⟨i0, hi, hz0, hz1, hz2⟩ := info_parts info76
  clear hx hu hin hvf hvb h ho hm hbf
  go_enter Tryz.func79, Tryz.ntmps79
  go_upto_region 6 with (go_at_call 97; first | (with_reducible_and_instances refine hF0.mono ?_; rintro e w' ⟨rfl, rfl⟩) | (with_reducible_and_instances refine hB0.mono ?_; rintro e w' ⟨rfl, rfl⟩))
  clear hF0 hB0
  by_cases hxu : x = u
  · subst hxu
    go_wp2_with (first | (go_at_call 84; refine (tw_F HO.out HG.out df _ k _ x (x - k) (Nat.le_refl _) (by omega) HVF.out rfl rfl HX.out rfl (by omega) (by omega)).mono ?_; rintro e w1 ⟨v1, l1, rfl, hr1, hb1, hc1⟩; have HR1 := Aside0.mk hr1; have HB1 := Aside0.mk hb1; have HC1 := Aside0.mk hc1; have HG1 := Aside0.mk (HG.out.below hb1); clear hr1 hb1 hc1; have HL1 : Aside0 (l1.length ≤ 1000000) := ⟨by have := chain_len HC1.out (Int.le_refl _) (by omega) (by omega); omega⟩) | (go_at_call 85; refine (tw_B HO.out HG1.out db _ (k - c.dl) _ x (x - k) (Nat.le_refl _) (by omega) HVB.out rfl rfl HU.out (by omega) (by omega) (by omega)).mono ?_; rintro e w2 ⟨v2, l2, rfl, hr2, hb2, hc2⟩; have HR2 := Aside0.mk hr2; have HB2 := Aside0.mk hb2; have HC2 := Aside0.mk hc2; have HR12 := Aside0.mk (HR1.out.below hb2); clear hr2 hb2 hc2; have HL2 : Aside0 (l2.length ≤ 1000000) := ⟨by have := chain_len HC2.out (by omega) (by omega) (by omega); have := HO.out.hN; omega⟩) | (at_builtin; obtain ⟨A1, p1, rfl⟩ := own_slice HR1.out; obtain ⟨A2, p2, rfl⟩ := own_slice HR2.out; refine wpList_append_seg rfl (.tmp 53) (.tmp 57) 115 115 rfl w.heap.size 162 i0 _ 3 24 Tryz.underlying115 Tryz.underlying115 hi hz0 hz1 hz2 rfl (by decide) _ l1.length (rowD l1) rfl HR12.out l2.length (rowD l2) (seg_own HR2.out) (fun u hu => rowD_one u hu) ?h63 ?hby ?hba ?_; (case h63 => unfold maxLen; have := HL1.out; have := HL2.out; omega); (case hby => have := HL1.out; have := HL2.out; omega); (case hba => have := HB1.out.size; have := HB2.out.size; omega); intro A3 p3 w3 ho3 hg3 _; have HR3 := Aside0.mk (dg_append ho3); have HG3 := Aside0.mk hg3; clear ho3 hg3) | (go_at_call 98; refine (lcs_sort w3 w.heap.size (by have := HB1.out.size; have := HB2.out.size; have := HG3.out.size; omega) _ (l1 ++ l2) HR3.out (by rw [List.length_append]; have := HL1.out; have := HL2.out; omega)).mono ?_; rintro e w4 ⟨l', rfl, hr4, hg4, hp4, hx4⟩; have HR4 := Aside0.mk hr4; have HG4 := Aside0.mk hg4; have HP4 := Aside0.mk hp4; have HX4 := Aside0.mk hx4; clear hr4 hg4 hp4 hx4))
    go_ret
    exact ⟨_, l', rfl, TwA.both HG.out HB1.out HR1.out HB2.out HG3.out HR3.out HG4.out HR4.out HP4.out HX4.out (chain_two l1 l2 (by omega) (by omega) (by omega) (by omega) (by omega) (by omega) HC1.out HC2.out)⟩
  · have hxf : (x == u) = false := by simpa using hxu
    have HNE := Lib.hid hxu
    clear hxu
    go_upto_region 10 with fail
    go_cut [86] from 61 to 86 (fun v w2 => ∃ b : Bool, v = .bool b ∧ Hid (b = true → 0 < u ∧ 1 ≤ df ∧ valid (df - 1) (k - 1) ∧ flab c.E c.N c.M (df - 1) (k - 1) = u - 1) ∧ Aside0 (GS c c.N c.M w2 (df + 1) Kf (db + 1) Kb))
    case first =>
      by_cases h1 : 0 < u
      · by_cases h2 : 0 ≤ (df : Int) - 1 ∧ -((df : Int) - 1) ≤ u - 1 - (u - k) ∧ u - 1 - (u - k) ≤ (df : Int) - 1
        · have hv1 : valid (df - 1) (k - 1) := by obtain ⟨p1, p2, p3⟩ := HVF.out; exact ⟨by omega, by omega, by omega⟩
          have hgt := gs_labF1 HG.out (u - 1 - (u - k)) (k - 1) (by omega) (by omega) (by omega) hv1
          generalize hy : flab c.E c.N c.M (df - 1) (k - 1) = y at hgt
          have HY := Aside0.mk hy
          clear hy
          by_cases h3 : y = u - 1
          · have t3 : (y == u - 1) = true := by simpa using h3
            have HT : Hid (0 < u ∧ 1 ≤ df ∧ valid (df - 1) (k - 1) ∧ flab c.E c.N c.M (df - 1) (k - 1) = u - 1) := Lib.hid ⟨h1, by omega, hv1, HY.out.trans h3⟩
            clear h3
            go_wp2_with (first | (go_at_call 99; with_reducible_and_instances refine (ok_true _ ((df : Int) - 1) (u - 1 - (u - k)) h2 (by omega)).mono ?_; rintro e w' ⟨rfl, rfl⟩) | (go_at_call 97; with_reducible_and_instances refine hgt.mono ?_; rintro e w' ⟨rfl, rfl⟩))
            go_meet
            exact ⟨true, rfl, Lib.hid (fun _ => HT.out), HG⟩
          · have t3 : (y == u - 1) = false := by simpa using h3
            clear h3
            go_wp2_with (first | (go_at_call 99; with_reducible_and_instances refine (ok_true _ ((df : Int) - 1) (u - 1 - (u - k)) h2 (by omega)).mono ?_; rintro e w' ⟨rfl, rfl⟩) | (go_at_call 97; with_reducible_and_instances refine hgt.mono ?_; rintro e w' ⟨rfl, rfl⟩))
            go_meet
            exact ⟨false, rfl, Lib.hid (fun h => by cases h), HG⟩
        · go_wp2_with (first | (go_at_call 99; with_reducible_and_instances refine (ok_false _ ((df : Int) - 1) (u - 1 - (u - k)) h2 (by omega) (by omega)).mono ?_; rintro e w' ⟨rfl, rfl⟩))
          go_meet
          exact ⟨false, rfl, Lib.hid (fun h => by cases h), HG⟩
      · go_wp2_with fail
        go_meet
        exact ⟨false, rfl, Lib.hid (fun h => by cases h), HG⟩
    case rest =>
      obtain ⟨b, rfl, HBC, HG2⟩ := hcut
      replace HG := HG2
      clear HG2
      obtain ⟨-, d4, d5, d6, d7, d8⟩ := gs_cells HG.out
      go_upto_if 86 with fail
      cases b with
      | true =>
        obtain ⟨q1, q2, q3, q4⟩ := HBC.out rfl
        have q5 := flab_bnd (c := c) (X := c.N) (Y := c.M) q3 (by omega) hN
        rw [q4] at q5
        go_wp2_with (first | (go_at_call 84; refine (tw_F HO.out HG.out (df - 1) _ (k - 1) _ (u - 1) (u - k) (by omega) (by omega) q3 (by omega) (by omega) q4 (by omega) (by omega) (by omega)).mono ?_; rintro e w1 ⟨v1, l1, rfl, hr1, hb1, hc1⟩; have HR1 := Aside0.mk hr1; have HB1 := Aside0.mk hb1; have HC1 := Aside0.mk hc1; have HG1 := Aside0.mk (HG.out.below hb1); clear hr1 hb1 hc1; have HL1 : Aside0 (l1.length ≤ 1000000) := ⟨by have := chain_len HC1.out (Int.le_refl _) (by omega) (by omega); omega⟩) | (go_at_call 85; refine (tw_B HO.out HG1.out db _ (k - c.dl) _ u (u - k) (Nat.le_refl _) (by omega) HVB.out rfl rfl HU.out (by omega) (by omega) (by omega)).mono ?_; rintro e w2 ⟨v2, l2, rfl, hr2, hb2, hc2⟩; have HR2 := Aside0.mk hr2; have HB2 := Aside0.mk hb2; have HC2 := Aside0.mk hc2; have HR12 := Aside0.mk (HR1.out.below hb2); clear hr2 hb2 hc2; have HL2 : Aside0 (l2.length ≤ 1000000) := ⟨by have := chain_len HC2.out (by omega) (by omega) (by omega); have := HO.out.hN; omega⟩) | (at_builtin; obtain ⟨A1, p1, rfl⟩ := own_slice HR1.out; obtain ⟨A2, p2, rfl⟩ := own_slice HR2.out; refine wpList_append_seg rfl (.tmp 95) (.tmp 99) 115 115 rfl wc.heap.size 162 i0 _ 3 24 Tryz.underlying115 Tryz.underlying115 hi hz0 hz1 hz2 rfl (by decide) _ l1.length (rowD l1) rfl HR12.out l2.length (rowD l2) (seg_own HR2.out) (fun u hu => rowD_one u hu) ?h63 ?hby ?hba ?_; (case h63 => unfold maxLen; have := HL1.out; have := HL2.out; omega); (case hby => have := HL1.out; have := HL2.out; omega); (case hba => have := HB1.out.size; have := HB2.out.size; omega); intro A3 p3 w3 ho3 hg3 _; have HR3 := Aside0.mk (dg_append ho3); have HG3 := Aside0.mk hg3; clear ho3 hg3) | (go_at_call 98; refine (lcs_sort w3 wc.heap.size (by have := HB1.out.size; have := HB2.out.size; have := HG3.out.size; omega) _ (l1 ++ l2) HR3.out (by rw [List.length_append]; have := HL1.out; have := HL2.out; omega)).mono ?_; rintro e w4 ⟨l', rfl, hr4, hg4, hp4, hx4⟩; have HR4 := Aside0.mk hr4; have HG4 := Aside0.mk hg4; have HP4 := Aside0.mk hp4; have HX4 := Aside0.mk hx4; clear hr4 hg4 hp4 hx4))
        go_ret
        exact ⟨_, l', rfl, TwA.both HG.out HB1.out HR1.out HB2.out HG3.out HR3.out HG4.out HR4.out HP4.out HX4.out (chain_two l1 l2 (by omega) (by omega) (by omega) (by omega) (by omega) (by omega) HC1.out HC2.out)⟩
      | false =>
        clear HBC
        go_upto_region 14 with fail
        go_cut [127] from 103 to 127 (fun v w2 => ∃ b : Bool, v = .bool b ∧ Hid (b = true → 0 < u - k ∧ 1 ≤ df ∧ valid (df - 1) (k + 1) ∧ flab c.E c.N c.M (df - 1) (k + 1) = u) ∧ Aside0 (GS c c.N c.M w2 (df + 1) Kf (db + 1) Kb))
        case first =>
          by_cases h1 : 0 < u - k
          · by_cases h2 : 0 ≤ (df : Int) - 1 ∧ -((df : Int) - 1) ≤ u - (u - k - 1) ∧ u - (u - k - 1) ≤ (df : Int) - 1
            · have hv1 : valid (df - 1) (k + 1) := by obtain ⟨p1, p2, p3⟩ := HVF.out; exact ⟨by omega, by omega, by omega⟩
              have hgt := gs_labF1 HG.out (u - (u - k - 1)) (k + 1) (by omega) (by omega) (by omega) hv1
              generalize hy : flab c.E c.N c.M (df - 1) (k + 1) = y at hgt
              have HY := Aside0.mk hy
              clear hy
              by_cases h3 : y = u
              · have t3 : (y == u) = true := by simpa using h3
                have HT : Hid (0 < u - k ∧ 1 ≤ df ∧ valid (df - 1) (k + 1) ∧ flab c.E c.N c.M (df - 1) (k + 1) = u) := Lib.hid ⟨h1, by omega, hv1, HY.out.trans h3⟩
                clear h3
                go_wp2_with (first | (go_at_call 99; with_reducible_and_instances refine (ok_true _ ((df : Int) - 1) (u - (u - k - 1)) h2 (by omega)).mono ?_; rintro e w' ⟨rfl, rfl⟩) | (go_at_call 97; with_reducible_and_instances refine hgt.mono ?_; rintro e w' ⟨rfl, rfl⟩))
                go_meet
                exact ⟨true, rfl, Lib.hid (fun _ => HT.out), HG⟩
              · have t3 : (y == u) = false := by simpa using h3
                clear h3
                go_wp2_with (first | (go_at_call 99; with_reducible_and_instances refine (ok_true _ ((df : Int) - 1) (u - (u - k - 1)) h2 (by omega)).mono ?_; rintro e w' ⟨rfl, rfl⟩) | (go_at_call 97; with_reducible_and_instances refine hgt.mono ?_; rintro e w' ⟨rfl, rfl⟩))
                go_meet
                exact ⟨false, rfl, Lib.hid (fun h => by cases h), HG⟩
            · go_wp2_with (first | (go_at_call 99; with_reducible_and_instances refine (ok_false _ ((df : Int) - 1) (u - (u - k - 1)) h2 (by omega) (by omega)).mono ?_; rintro e w' ⟨rfl, rfl⟩))
              go_meet
              exact ⟨false, rfl, Lib.hid (fun h => by cases h), HG⟩
          · go_wp2_with fail
            go_meet
            exact ⟨false, rfl, Lib.hid (fun h => by cases h), HG⟩
        case rest =>
          obtain ⟨b, rfl, HBC, HG2⟩ := hcut
          replace HG := HG2
          clear HG2
          obtain ⟨-, d4, d5, d6, d7, d8⟩ := gs_cells HG.out
          go_upto_if 127 with fail
          cases b with
          | true =>
            obtain ⟨q1, q2, q3, q4⟩ := HBC.out rfl
            have q5 := flab_bnd (c := c) (X := c.N) (Y := c.M) q3 (by omega) hN
            rw [q4] at q5
            go_wp2_with (first | (go_at_call 84; refine (tw_F HO.out HG.out (df - 1) _ (k + 1) _ u (u - k - 1) (by omega) (by omega) q3 (by omega) (by omega) q4 (by omega) (by omega) (by omega)).mono ?_; rintro e w1 ⟨v1, l1, rfl, hr1, hb1, hc1⟩; have HR1 := Aside0.mk hr1; have HB1 := Aside0.mk hb1; have HC1 := Aside0.mk hc1; have HG1 := Aside0.mk (HG.out.below hb1); clear hr1 hb1 hc1; have HL1 : Aside0 (l1.length ≤ 1000000) := ⟨by have := chain_len HC1.out (Int.le_refl _) (by omega) (by omega); omega⟩) | (go_at_call 85; refine (tw_B HO.out HG1.out db _ (k - c.dl) _ u (u - k) (Nat.le_refl _) (by omega) HVB.out rfl rfl HU.out (by omega) (by omega) (by omega)).mono ?_; rintro e w2 ⟨v2, l2, rfl, hr2, hb2, hc2⟩; have HR2 := Aside0.mk hr2; have HB2 := Aside0.mk hb2; have HC2 := Aside0.mk hc2; have HR12 := Aside0.mk (HR1.out.below hb2); clear hr2 hb2 hc2; have HL2 : Aside0 (l2.length ≤ 1000000) := ⟨by have := chain_len HC2.out (by omega) (by omega) (by omega); have := HO.out.hN; omega⟩) | (at_builtin; obtain ⟨A1, p1, rfl⟩ := own_slice HR1.out; obtain ⟨A2, p2, rfl⟩ := own_slice HR2.out; refine wpList_append_seg rfl (.tmp 136) (.tmp 140) 115 115 rfl wc.heap.size 162 i0 _ 3 24 Tryz.underlying115 Tryz.underlying115 hi hz0 hz1 hz2 rfl (by decide) _ l1.length (rowD l1) rfl HR12.out l2.length (rowD l2) (seg_own HR2.out) (fun u hu => rowD_one u hu) ?h63 ?hby ?hba ?_; (case h63 => unfold maxLen; have := HL1.out; have := HL2.out; omega); (case hby => have := HL1.out; have := HL2.out; omega); (case hba => have := HB1.out.size; have := HB2.out.size; omega); intro A3 p3 w3 ho3 hg3 _; have HR3 := Aside0.mk (dg_append ho3); have HG3 := Aside0.mk hg3; clear ho3 hg3) | (go_at_call 98; refine (lcs_sort w3 wc.heap.size (by have := HB1.out.size; have := HB2.out.size; have := HG3.out.size; omega) _ (l1 ++ l2) HR3.out (by rw [List.length_append]; have := HL1.out; have := HL2.out; omega)).mono ?_; rintro e w4 ⟨l', rfl, hr4, hg4, hp4, hx4⟩; have HR4 := Aside0.mk hr4; have HG4 := Aside0.mk hg4; have HP4 := Aside0.mk hp4; have HX4 := Aside0.mk hx4; clear hr4 hg4 hp4 hx4))
            go_ret
            exact ⟨_, l', rfl, TwA.both HG.out HB1.out HR1.out HB2.out HG3.out HR3.out HG4.out HR4.out HP4.out HX4.out (chain_two l1 l2 (by omega) (by omega) (by omega) (by omega) (by omega) (by omega) HC1.out HC2.out)⟩
          | false =>
            clear HBC
            go_upto_region 18 with fail
            go_cut [165] from 144 to 165 (fun v w2 => ∃ b : Bool, v = .bool b ∧ Hid ((b = true → u = 0 ∨ u - k = 0 ∨ x = (c.N : Int) ∨ x - k = (c.M : Int)) ∧ (b = false → ¬ (u = 0 ∨ u - k = 0 ∨ x = (c.N : Int) ∨ x - k = (c.M : Int)))) ∧ Aside0 (GS c c.N c.M w2 (df + 1) Kf (db + 1) Kb))
            case first =>
              by_cases h0 : u = 0
              · have t0 : (u == 0) = true := by simpa using h0
                have HT : Hid (u = 0 ∨ u - k = 0 ∨ x = (c.N : Int) ∨ x - k = (c.M : Int)) := Lib.hid (Or.inl h0)
                clear h0
                go_wp2_with fail
                go_meet
                exact ⟨true, rfl, Lib.hid ⟨fun _ => HT.out, fun h => by cases h⟩, HG⟩
              ·
                by_cases h1 : u - k = 0
                · have t0 : (u == 0) = false := by simpa using h0
                  have t1 : (u - k == 0) = true := by simpa using h1
                  have HT : Hid (u = 0 ∨ u - k = 0 ∨ x = (c.N : Int) ∨ x - k = (c.M : Int)) := Lib.hid (Or.inr (Or.inl h1))
                  clear h0 h1
                  go_wp2_with fail
                  go_meet
                  exact ⟨true, rfl, Lib.hid ⟨fun _ => HT.out, fun h => by cases h⟩, HG⟩
                ·
                  by_cases h2 : x = (c.N : Int)
                  · have t0 : (u == 0) = false := by simpa using h0
                    have t1 : (u - k == 0) = false := by simpa using h1
                    have t2 : (x == (c.N : Int)) = true := by simpa using h2
                    have HT : Hid (u = 0 ∨ u - k = 0 ∨ x = (c.N : Int) ∨ x - k = (c.M : Int)) := Lib.hid (Or.inr (Or.inr (Or.inl h2)))
                    clear h0 h1 h2
                    go_wp2_with fail
                    go_meet
                    exact ⟨true, rfl, Lib.hid ⟨fun _ => HT.out, fun h => by cases h⟩, HG⟩
                  ·
                    by_cases h3 : x - k = (c.M : Int)
                    · have t0 : (u == 0) = false := by simpa using h0
                      have t1 : (u - k == 0) = false := by simpa using h1
                      have t2 : (x == (c.N : Int)) = false := by simpa using h2
                      have t3 : (x - k == (c.M : Int)) = true := by simpa using h3
                      have HT : Hid (u = 0 ∨ u - k = 0 ∨ x = (c.N : Int) ∨ x - k = (c.M : Int)) := Lib.hid (Or.inr (Or.inr (Or.inr (h3))))
                      clear h0 h1 h2 h3
                      go_wp2_with fail
                      go_meet
                      exact ⟨true, rfl, Lib.hid ⟨fun _ => HT.out, fun h => by cases h⟩, HG⟩
                    ·
                      have t0 : (u == 0) = false := by simpa using h0
                      have t1 : (u - k == 0) = false := by simpa using h1
                      have t2 : (x == (c.N : Int)) = false := by simpa using h2
                      have t3 : (x - k == (c.M : Int)) = false := by simpa using h3
                      have HT : Hid (¬ (u = 0 ∨ u - k = 0 ∨ x = (c.N : Int) ∨ x - k = (c.M : Int))) := Lib.hid (fun h => by exact h.elim h0 (fun h => h.elim h1 (fun h => h.elim h2 h3)))
                      clear h0 h1 h2 h3
                      go_wp2_with fail
                      go_meet
                      exact ⟨false, rfl, Lib.hid ⟨(fun h => by cases h), fun _ => HT.out⟩, HG⟩
            case rest =>
              obtain ⟨b, rfl, HBC, HG2⟩ := hcut
              replace HG := HG2
              clear HG2
              obtain ⟨-, d4, d5, d6, d7, d8⟩ := gs_cells HG.out
              go_upto_if 165 with fail
              cases b with
              | true =>
                have HS4 := Lib.hid (HBC.out.1 rfl)
                clear HBC
                by_cases h0 : u = 0
                · have t0 : (u == 0) = true := by simpa using h0
                  have q2 : 0 ≤ u := by omega
                  have q3 : 0 ≤ u - k := by omega
                  clear h0
                  go_wp2_with (go_at_call 85; refine (tw_B HO.out HG.out db _ (k - c.dl) _ u (u - k) (Nat.le_refl _) (by omega) HVB.out rfl rfl HU.out (by omega) q2 q3).mono ?_; rintro e w1 ⟨v1, l1, rfl, hr1, hb1, hc1⟩; have HR1 := Aside0.mk hr1; have HB1 := Aside0.mk hb1; have HC1 := Aside0.mk hc1; have HG1 := Aside0.mk (HG.out.below hb1); clear hr1 hb1 hc1; have HL1 : Aside0 (l1.length ≤ 1000000) := ⟨by have := chain_len HC1.out (by omega) (by omega) (by omega); have := HO.out.hN; omega⟩)
                  go_ret
                  exact ⟨v1, l1, rfl, TwA.one HG.out HR1.out HB1.out (chain_mono l1 u (u - k) 0 0 q2 q3 HC1.out)⟩
                · by_cases h1 : u - k = 0
                  · have t0 : (u == 0) = false := by simpa using h0
                    have t1 : (u - k == 0) = true := by simpa using h1
                    have q2 : 0 ≤ u := by omega
                    have q3 : 0 ≤ u - k := by omega
                    clear h0 h1
                    go_wp2_with (go_at_call 85; refine (tw_B HO.out HG.out db _ (k - c.dl) _ u (u - k) (Nat.le_refl _) (by omega) HVB.out rfl rfl HU.out (by omega) q2 q3).mono ?_; rintro e w1 ⟨v1, l1, rfl, hr1, hb1, hc1⟩; have HR1 := Aside0.mk hr1; have HB1 := Aside0.mk hb1; have HC1 := Aside0.mk hc1; have HG1 := Aside0.mk (HG.out.below hb1); clear hr1 hb1 hc1; have HL1 : Aside0 (l1.length ≤ 1000000) := ⟨by have := chain_len HC1.out (by omega) (by omega) (by omega); have := HO.out.hN; omega⟩)
                    go_ret
                    exact ⟨v1, l1, rfl, TwA.one HG.out HR1.out HB1.out (chain_mono l1 u (u - k) 0 0 q2 q3 HC1.out)⟩
                  · have t0 : (u == 0) = false := by simpa using h0
                    have t1 : (u - k == 0) = false := by simpa using h1
                    have q2 : x ≤ (c.N : Int) := by have := HS4.out; omega
                    have q3 : x - k ≤ (c.M : Int) := by have := HS4.out; omega
                    clear h0 h1
                    go_wp2_with (go_at_call 84; refine (tw_F HO.out HG.out df _ k _ x (x - k) (Nat.le_refl _) (by omega) HVF.out rfl rfl HX.out rfl q2 q3).mono ?_; rintro e w1 ⟨v1, l1, rfl, hr1, hb1, hc1⟩; have HR1 := Aside0.mk hr1; have HB1 := Aside0.mk hb1; have HC1 := Aside0.mk hc1; have HG1 := Aside0.mk (HG.out.below hb1); clear hr1 hb1 hc1; have HL1 : Aside0 (l1.length ≤ 1000000) := ⟨by have := chain_len HC1.out (Int.le_refl _) (by omega) (by omega); omega⟩)
                    go_ret
                    exact ⟨v1, l1, rfl, TwA.one HG.out HR1.out HB1.out (chain_widen l1 0 0 HC1.out (by omega) (by omega))⟩
              | false =>
                have HNS := Lib.hid (HBC.out.2 rfl)
                clear HBC
                go_upto_region 22 with fail
                go_cut [220] from 180 to 220 (fun v w2 => ∃ b : Bool, v = .bool b ∧ Hid (b = true → x + 1 ≤ (c.N : Int) ∧ 1 ≤ db ∧ valid (db - 1) (k - c.dl + 1) ∧ lab c.E c.N c.dl (db - 1) (k - c.dl + 1) = x + 1) ∧ Aside0 (GS c c.N c.M w2 (df + 1) Kf (db + 1) Kb))
                case first =>
                  by_cases h1 : x + 1 ≤ (c.N : Int)
                  · by_cases h2 : 0 ≤ (db : Int) - 1 ∧ -((db : Int) - 1) ≤ x + 1 - (x - k) - c.dl ∧ x + 1 - (x - k) - c.dl ≤ (db : Int) - 1
                    · have hv1 : valid (db - 1) (k - c.dl + 1) := by obtain ⟨p1, p2, p3⟩ := HVB.out; exact ⟨by omega, by omega, by omega⟩
                      have hok := fun n => (ok_true (wc.drewN n) ((db : Int) - 1) (x + 1 - (x - k) - c.dl) h2 (by omega)).mono (fun e w' ⟨a, b⟩ => (⟨a, n, b.symm⟩ : e = Ending.returned (.bool true) ∧ ∃ m, w' = wc.drewN m))
                      have hgt := fun n => (gs_labB1 (HG.out.below (pw_below_drewN (Below.refl _ _) n)) (x + 1 - (x - k) - c.dl) (k - c.dl + 1) (by omega) (by omega) (by omega) hv1).mono (fun e w' ⟨a, b⟩ => (⟨a, n, b.symm⟩ : e = Ending.returned (.int .i64 (lab c.E c.N c.dl (db - 1) (k - c.dl + 1))) ∧ ∃ m, w' = wc.drewN m))
                      generalize hy : lab c.E c.N c.dl (db - 1) (k - c.dl + 1) = y at hgt
                      have HY := Aside0.mk hy
                      clear hy
                      by_cases h3 : y = x + 1
                      · have t3 : (y == x + 1) = true := by simpa using h3
                        have HT : Hid (x + 1 ≤ (c.N : Int) ∧ 1 ≤ db ∧ valid (db - 1) (k - c.dl + 1) ∧ lab c.E c.N c.dl (db - 1) (k - c.dl + 1) = x + 1) := Lib.hid ⟨h1, by omega, hv1, HY.out.trans h3⟩
                        clear h3
                        go_quiet (first | (go_at_call 99; exact hok _) | (go_at_call 97; exact hgt _))
                        go_wp2_with fail
                        go_meet
                        exact ⟨true, rfl, Lib.hid (fun _ => HT.out), ⟨HG.out.below (pw_below_drewN (Below.refl _ _) _)⟩⟩
                      · have t3 : (y == x + 1) = false := by simpa using h3
                        clear h3
                        go_quiet (first | (go_at_call 99; exact hok _) | (go_at_call 97; exact hgt _))
                        go_wp2_with fail
                        go_meet
                        exact ⟨false, rfl, Lib.hid (fun h => by cases h), ⟨HG.out.below (pw_below_drewN (Below.refl _ _) _)⟩⟩
                    · have hok := fun n => (ok_false (wc.drewN n) ((db : Int) - 1) (x + 1 - (x - k) - c.dl) h2 (by omega) (by omega)).mono (fun e w' ⟨a, b⟩ => (⟨a, n, b.symm⟩ : e = Ending.returned (.bool false) ∧ ∃ m, w' = wc.drewN m))
                      go_quiet (first | (go_at_call 99; exact hok _))
                      go_wp2_with fail
                      go_meet
                      exact ⟨false, rfl, Lib.hid (fun h => by cases h), ⟨HG.out.below (pw_below_drewN (Below.refl _ _) _)⟩⟩
                  · have h1f : decide (x + 1 ≤ (c.N : Int)) = false := decide_eq_false h1
                    go_quiet (fail)
                    go_wp2_with fail
                    go_meet
                    exact ⟨false, rfl, Lib.hid (fun h => by cases h), ⟨HG.out.below (pw_below_drewN (Below.refl _ _) _)⟩⟩
                case rest =>
                  obtain ⟨b, rfl, HBC, HG2⟩ := hcut
                  replace HG := HG2
                  clear HG2
                  obtain ⟨-, d4, d5, d6, d7, d8⟩ := gs_cells HG.out
                  go_upto_if 220 with fail
                  cases b with
                  | true =>
                    obtain ⟨q1, q2, q3, q4⟩ := HBC.out rfl
                    have q5 := lab_bnd HO.out q3 (by omega)
                    rw [q4] at q5
                    go_wp2_with (first | (go_at_call 85; refine (tw_B HO.out HG.out (db - 1) _ (k - c.dl + 1) _ (x + 1) (x - k) (by omega) (by omega) q3 (by omega) (by omega) q4 (by omega) (by omega) (by omega)).mono ?_; rintro e w1 ⟨v1, l1, rfl, hr1, hb1, hc1⟩; have HR1 := Aside0.mk hr1; have HB1 := Aside0.mk hb1; have HC1 := Aside0.mk hc1; have HG1 := Aside0.mk (HG.out.below hb1); clear hr1 hb1 hc1; have HL1 : Aside0 (l1.length ≤ 1000000) := ⟨by have := chain_len HC1.out (by omega) (by omega) (by omega); have := HO.out.hN; omega⟩) | (go_at_call 84; refine (tw_F HO.out HG1.out df _ k _ x (x - k) (Nat.le_refl _) (by omega) HVF.out rfl rfl HX.out rfl (by omega) (by omega)).mono ?_; rintro e w2 ⟨v2, l2, rfl, hr2, hb2, hc2⟩; have HR2 := Aside0.mk hr2; have HB2 := Aside0.mk hb2; have HC2 := Aside0.mk hc2; have HR12 := Aside0.mk (HR1.out.below hb2); clear hr2 hb2 hc2; have HL2 : Aside0 (l2.length ≤ 1000000) := ⟨by have := chain_len HC2.out (Int.le_refl _) (by omega) (by omega); omega⟩) | (at_builtin; obtain ⟨A1, p1, rfl⟩ := own_slice HR1.out; obtain ⟨A2, p2, rfl⟩ := own_slice HR2.out; refine wpList_append_seg rfl (.tmp 227) (.tmp 231) 115 115 rfl wc.heap.size 162 i0 _ 3 24 Tryz.underlying115 Tryz.underlying115 hi hz0 hz1 hz2 rfl (by decide) _ l1.length (rowD l1) rfl HR12.out l2.length (rowD l2) (seg_own HR2.out) (fun u hu => rowD_one u hu) ?h63 ?hby ?hba ?_; (case h63 => unfold maxLen; have := HL1.out; have := HL2.out; omega); (case hby => have := HL1.out; have := HL2.out; omega); (case hba => have := HB1.out.size; have := HB2.out.size; omega); intro A3 p3 w3 ho3 hg3 _; have HR3 := Aside0.mk (dg_append ho3); have HG3 := Aside0.mk hg3; clear ho3 hg3) | (go_at_call 98; refine (lcs_sort w3 wc.heap.size (by have := HB1.out.size; have := HB2.out.size; have := HG3.out.size; omega) _ (l1 ++ l2) HR3.out (by rw [List.length_append]; have := HL1.out; have := HL2.out; omega)).mono ?_; rintro e w4 ⟨l', rfl, hr4, hg4, hp4, hx4⟩; have HR4 := Aside0.mk hr4; have HG4 := Aside0.mk hg4; have HP4 := Aside0.mk hp4; have HX4 := Aside0.mk hx4; clear hr4 hg4 hp4 hx4))
                    go_ret
                    exact ⟨_, l', rfl, TwA.both' HG.out HB1.out HR1.out HB2.out HG3.out HR3.out HG4.out HR4.out HP4.out HX4.out (chain_two l2 l1 (by omega) (by omega) (by omega) (by omega) (by omega) (by omega) HC2.out HC1.out)⟩
                  | false =>
                    clear HBC
                    go_upto_region 26 with fail
                    go_cut [274] from 235 to 274 (fun v w2 => ∃ b : Bool, v = .bool b ∧ Hid (b = true → x - k + 1 ≤ (c.M : Int) ∧ 1 ≤ db ∧ valid (db - 1) (k - c.dl - 1) ∧ lab c.E c.N c.dl (db - 1) (k - c.dl - 1) = x) ∧ Aside0 (GS c c.N c.M w2 (df + 1) Kf (db + 1) Kb))
                    case first =>
                      by_cases h1 : x - k + 1 ≤ (c.M : Int)
                      · by_cases h2 : 0 ≤ (db : Int) - 1 ∧ -((db : Int) - 1) ≤ x - (x - k + 1) - c.dl ∧ x - (x - k + 1) - c.dl ≤ (db : Int) - 1
                        · have hv1 : valid (db - 1) (k - c.dl - 1) := by obtain ⟨p1, p2, p3⟩ := HVB.out; exact ⟨by omega, by omega, by omega⟩
                          have hok := fun n => (ok_true (wc.drewN n) ((db : Int) - 1) (x - (x - k + 1) - c.dl) h2 (by omega)).mono (fun e w' ⟨a, b⟩ => (⟨a, n, b.symm⟩ : e = Ending.returned (.bool true) ∧ ∃ m, w' = wc.drewN m))
                          have hgt := fun n => (gs_labB1 (HG.out.below (pw_below_drewN (Below.refl _ _) n)) (x - (x - k + 1) - c.dl) (k - c.dl - 1) (by omega) (by omega) (by omega) hv1).mono (fun e w' ⟨a, b⟩ => (⟨a, n, b.symm⟩ : e = Ending.returned (.int .i64 (lab c.E c.N c.dl (db - 1) (k - c.dl - 1))) ∧ ∃ m, w' = wc.drewN m))
                          generalize hy : lab c.E c.N c.dl (db - 1) (k - c.dl - 1) = y at hgt
                          have HY := Aside0.mk hy
                          clear hy
                          by_cases h3 : y = x
                          · have t3 : (y == x) = true := by simpa using h3
                            have HT : Hid (x - k + 1 ≤ (c.M : Int) ∧ 1 ≤ db ∧ valid (db - 1) (k - c.dl - 1) ∧ lab c.E c.N c.dl (db - 1) (k - c.dl - 1) = x) := Lib.hid ⟨h1, by omega, hv1, HY.out.trans h3⟩
                            clear h3
                            go_quiet (first | (go_at_call 99; exact hok _) | (go_at_call 97; exact hgt _))
                            go_wp2_with fail
                            go_meet
                            exact ⟨true, rfl, Lib.hid (fun _ => HT.out), ⟨HG.out.below (pw_below_drewN (Below.refl _ _) _)⟩⟩
                          · have t3 : (y == x) = false := by simpa using h3
                            clear h3
                            go_quiet (first | (go_at_call 99; exact hok _) | (go_at_call 97; exact hgt _))
                            go_wp2_with fail
                            go_meet
                            exact ⟨false, rfl, Lib.hid (fun h => by cases h), ⟨HG.out.below (pw_below_drewN (Below.refl _ _) _)⟩⟩
                        · have hok := fun n => (ok_false (wc.drewN n) ((db : Int) - 1) (x - (x - k + 1) - c.dl) h2 (by omega) (by omega)).mono (fun e w' ⟨a, b⟩ => (⟨a, n, b.symm⟩ : e = Ending.returned (.bool false) ∧ ∃ m, w' = wc.drewN m))
                          go_quiet (first | (go_at_call 99; exact hok _))
                          go_wp2_with fail
                          go_meet
                          exact ⟨false, rfl, Lib.hid (fun h => by cases h), ⟨HG.out.below (pw_below_drewN (Below.refl _ _) _)⟩⟩
                      · have h1f : decide (x - k + 1 ≤ (c.M : Int)) = false := decide_eq_false h1
                        go_quiet (fail)
                        go_wp2_with fail
                        go_meet
                        exact ⟨false, rfl, Lib.hid (fun h => by cases h), ⟨HG.out.below (pw_below_drewN (Below.refl _ _) _)⟩⟩
                    case rest =>
                      obtain ⟨b, rfl, HBC, HG2⟩ := hcut
                      replace HG := HG2
                      clear HG2
                      obtain ⟨-, d4, d5, d6, d7, d8⟩ := gs_cells HG.out
                      go_upto_if 274 with fail
                      cases b with
                      | true =>
                        obtain ⟨q1, q2, q3, q4⟩ := HBC.out rfl
                        have q5 := lab_bnd HO.out q3 (by omega)
                        rw [q4] at q5
                        go_wp2_with (first | (go_at_call 85; refine (tw_B HO.out HG.out (db - 1) _ (k - c.dl - 1) _ (x) (x - k + 1) (by omega) (by omega) q3 (by omega) (by omega) q4 (by omega) (by omega) (by omega)).mono ?_; rintro e w1 ⟨v1, l1, rfl, hr1, hb1, hc1⟩; have HR1 := Aside0.mk hr1; have HB1 := Aside0.mk hb1; have HC1 := Aside0.mk hc1; have HG1 := Aside0.mk (HG.out.below hb1); clear hr1 hb1 hc1; have HL1 : Aside0 (l1.length ≤ 1000000) := ⟨by have := chain_len HC1.out (by omega) (by omega) (by omega); have := HO.out.hN; omega⟩) | (go_at_call 84; refine (tw_F HO.out HG1.out df _ k _ x (x - k) (Nat.le_refl _) (by omega) HVF.out rfl rfl HX.out rfl (by omega) (by omega)).mono ?_; rintro e w2 ⟨v2, l2, rfl, hr2, hb2, hc2⟩; have HR2 := Aside0.mk hr2; have HB2 := Aside0.mk hb2; have HC2 := Aside0.mk hc2; have HR12 := Aside0.mk (HR1.out.below hb2); clear hr2 hb2 hc2; have HL2 : Aside0 (l2.length ≤ 1000000) := ⟨by have := chain_len HC2.out (Int.le_refl _) (by omega) (by omega); omega⟩) | (at_builtin; obtain ⟨A1, p1, rfl⟩ := own_slice HR1.out; obtain ⟨A2, p2, rfl⟩ := own_slice HR2.out; refine wpList_append_seg rfl (.tmp 281) (.tmp 285) 115 115 rfl wc.heap.size 162 i0 _ 3 24 Tryz.underlying115 Tryz.underlying115 hi hz0 hz1 hz2 rfl (by decide) _ l1.length (rowD l1) rfl HR12.out l2.length (rowD l2) (seg_own HR2.out) (fun u hu => rowD_one u hu) ?h63 ?hby ?hba ?_; (case h63 => unfold maxLen; have := HL1.out; have := HL2.out; omega); (case hby => have := HL1.out; have := HL2.out; omega); (case hba => have := HB1.out.size; have := HB2.out.size; omega); intro A3 p3 w3 ho3 hg3 _; have HR3 := Aside0.mk (dg_append ho3); have HG3 := Aside0.mk hg3; clear ho3 hg3) | (go_at_call 98; refine (lcs_sort w3 wc.heap.size (by have := HB1.out.size; have := HB2.out.size; have := HG3.out.size; omega) _ (l1 ++ l2) HR3.out (by rw [List.length_append]; have := HL1.out; have := HL2.out; omega)).mono ?_; rintro e w4 ⟨l', rfl, hr4, hg4, hp4, hx4⟩; have HR4 := Aside0.mk hr4; have HG4 := Aside0.mk hg4; have HP4 := Aside0.mk hp4; have HX4 := Aside0.mk hx4; clear hr4 hg4 hp4 hx4))
                        go_ret
                        exact ⟨_, l', rfl, TwA.both' HG.out HB1.out HR1.out HB2.out HG3.out HR3.out HG4.out HR4.out HP4.out HX4.out (chain_two l2 l1 (by omega) (by omega) (by omega) (by omega) (by omega) (by omega) HC2.out HC1.out)⟩
                      | false =>
                        clear HBC
                        obtain ⟨q2, q3⟩ := HIN.out (fun h => h.elim HNE.out (fun h => HNS.out (h.elim Or.inl (fun h => h.elim (fun h => Or.inr (Or.inl h)) (fun h => h.elim (fun h => Or.inr (Or.inr (Or.inr h))) (fun h => Or.inr (Or.inr (Or.inl h))))))))
                        clear HIN HNE HNS
                        go_upto_region 31 with (go_at_call 85; refine (tw_B HO.out HG.out db _ (k - c.dl) _ u (u - k) (Nat.le_refl _) (by omega) HVB.out rfl rfl HU.out (by omega) (by omega) (by omega)).mono ?_; rintro e w1 ⟨v1, l1, rfl, hr1, hb1, hc1⟩; have HR1 := Aside0.mk hr1; have HB1 := Aside0.mk hb1; have HC1 := Aside0.mk hc1; have HG1 := Aside0.mk (HG.out.below hb1); clear hr1 hb1 hc1; have HL1 : Aside0 (l1.length ≤ 1000000) := ⟨by have := chain_len HC1.out (by omega) (by omega) (by omega); have := HO.out.hN; omega⟩)
                        obtain ⟨-, e4, e5, e6, e7, e8⟩ := gs_cells HG1.out
                        obtain ⟨f6, f7⟩ : w1.frozen? ⟨c.ge, 6, none⟩ = false ∧ w1.frozen? ⟨c.ge, 7, none⟩ = false := by
                          obtain ⟨F, nf, Lf, nb, Lb, s1, ⟨vf, vb, Ff, Fb, h2⟩, _⟩ := HG1.out
                          exact ⟨blk_frozen h2.cells 6, blk_frozen h2.cells 7⟩
                        go_quiet (fail)
                        have HB1' := Aside0.mk (pw_below_drewN HB1.out nq)
                        obtain ⟨F, wb, hwb, s0, hge, hsz, hbz, hfw⟩ := fw_box HO.out HG.out HB1'.out u (u - k) (by omega) (by omega) (by omega) (by omega)
                        have HWB := Lib.hid hwb
                        have HS0 := Aside0.mk s0
                        have HGE := Aside0.mk hge
                        have HSZ := Aside0.mk hsz
                        have HFW := Aside0.mk hfw
                        have HR1' := Aside0.mk (pw_own_drewN HR1.out nq)
                        clear hwb s0 hge hsz hfw
                        go_wp2_with (first | (go_at_call 100; refine HFW.out.mono ?_; rintro e w2 ⟨v2, l2, F', rfl, s2, hr2, hc2, cs, hb, hc6, hc7⟩; have HS2 := Aside0.mk s2; have HR2 := Aside0.mk hr2; have HC2 := Aside0.mk hc2; have HBK := Aside0.mk (And.intro hb (And.intro hc6 hc7)); have HL2 : Aside0 (l2.length ≤ 1000000) := ⟨by have := chain_len hc2 (Int.le_refl _) (by omega) (by omega); omega⟩; have HR12 : Aside0 (DgRow w2 wc.heap.size v1 l1) := ⟨by rw [HWB.out] at s2; exact row_step (row_put (row_put HR1'.out (HSZ.out _ HGE.out) 6 _) (HSZ.out _ HGE.out) 7 _) s2 HSZ.out⟩; clear s2 hr2 hc2 hb hc6 hc7) | (at_builtin; obtain ⟨A1, p1, rfl⟩ := own_slice HR1.out; obtain ⟨A2, p2, rfl⟩ := own_slice HR2.out; refine wpList_append_seg rfl (.tmp 309) (.tmp 311) 115 115 rfl wc.heap.size 162 i0 _ 3 24 Tryz.underlying115 Tryz.underlying115 hi hz0 hz1 hz2 rfl (by decide) _ l1.length (rowD l1) rfl HR12.out l2.length (rowD l2) (seg_own HR2.out) (fun u hu => rowD_one u hu) ?h63 ?hby ?hba ?_; (case h63 => unfold maxLen; have := HL1.out; have := HL2.out; omega); (case hby => have := HL1.out; have := HL2.out; omega); (case hba => exact Nat.le_trans hbz HS2.out.size); intro A3 p3 w3 ho3 hg3 _; have hgk := blk_grown HBK.out.1 hg3 (fun e => by have := own_base HR1.out _ e.symm; have := HSZ.out _ HGE.out; omega); have g6 : w3.cell? ⟨c.ge, 6, none⟩ = some (.int .i64 u) := (blk_cell hgk 6).trans HBK.out.2.1; have g7 : w3.cell? ⟨c.ge, 7, none⟩ = some (.int .i64 (u - k)) := (blk_cell hgk 7).trans HBK.out.2.2; have fr6 := blk_frozen hgk 6; have fr7 := blk_frozen hgk 7; have HR3 := Aside0.mk (dg_append ho3); have HG3 := Aside0.mk hg3; clear ho3 hg3 hgk) | (go_at_call 98; refine (lcs_sort _ wc.heap.size (by simp; exact Nat.le_trans hbz (Nat.le_trans HS2.out.size HG3.out.size)) _ (l1 ++ l2) (row_put (row_put HR3.out (HSZ.out _ HGE.out) 6 _) (HSZ.out _ HGE.out) 7 _) (by rw [List.length_append]; have := HL1.out; have := HL2.out; omega)).mono ?_; rintro e w4 ⟨l', rfl, hr4, hg4, hp4, hx4⟩; have HR4 := Aside0.mk hr4; have HG4 := Aside0.mk hg4; have HP4 := Aside0.mk hp4; have HX4 := Aside0.mk hx4; clear hr4 hg4 hp4 hx4))
                        go_ret
                        exact ⟨_, l', rfl, TwA.boxed HS0.out HGE.out HSZ.out HB1'.out HR1'.out HWB.out HS2.out HG3.out HR3.out HG4.out HR4.out HP4.out HX4.out (chain_two l2 l1 (by omega) (by omega) (Int.le_refl _) (Int.le_refl _) (by omega) (by omega) HC2.out HC1.out)⟩
end
end Go.Proofs.YtonajgipkpnpoaaGreatDoor.Gr
