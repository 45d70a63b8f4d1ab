/- unified.String: the text of hunks. -/
import Derived.Test.YtonajgipkpnpoaaDoorCBw
import Derived.Deep.LoopGhost
import Derived.Deep.DeepCutAuto
namespace Go.Proofs.YtonajgipkpnpoaaDoor.Un
open Go.RowKit Go.Proofs.YtonajgipkpnpoaaDoorW.PrintWords Go.Proofs.YtonajgipkpnpoaaDoorW.PrintLast Go.Proofs.YtonajgipkpnpoaaDoorW.PrintMore Go.Uni
set_option linter.unusedVariables false
set_option linter.unusedSimpArgs false

theorem size3 (a s b : ByteArray) : (a ++ s ++ b).size = a.size + s.size + b.size := by rw [ByteArray.size_append, ByteArray.size_append]

theorem its_le : ∀ its : List It, its.length ≤ (rIts its).length
  | [] => Nat.le_refl _
  | i :: t => by
    have := its_le t
    unfold rIts at this ⊢
    rw [List.map_cons, List.flatten_cons, List.length_append, List.length_cons]
    have : 1 ≤ (rIt i).length := by unfold rIt; simp
    omega

theorem rSpan_le {f n : Nat} (hf : f < 10 ^ 18) (hn : n < 10 ^ 18) : (rSpan f n).length ≤ 40 := by
  have h1 := dec_length (k := 18) (by decide) hf
  have h2 := dec_length (k := 18) (by decide) hn
  unfold rSpan
  split
  · simp; omega
  · split
    · simp
    · omega

set_option maxRecDepth 100000 in
set_option maxHeartbeats 4000000 in
theorem string_none (W : World) (fa fb : ByteArray) : Calls Tryd.prog 25 #[.agg #[.string fa, .string fb, .slice none 0 0]] W fun e w' => e = .returned (.string ⟨#[]⟩) ∧ Below W.heap.size W w' := by
  go_enter Tryd.func25, Tryd.ntmps25
  go_wp2_with fail
  go_ret
  exact ⟨rfl, below_alloc (Below.refl _ _) _⟩

set_option maxRecDepth 100000 in
set_option maxHeartbeats 4000000 in
theorem string_calls (W : World) (fa fb : ByteArray) (vh : Value) (hs : List HX) (B0 m : Nat) (hne : hs ≠ []) (hrow : W.ownsRow B0 74 1 vh hs.length (hs.map fun (x : HX) => .pointer (some ⟨x.1, 0, none⟩))) (hh : ∀ x ∈ hs, HkV W B0 x.1 x.2.1 x.2.2) (hg : ∀ x ∈ hs, Go.Uni.Good m x.2.2) (hm : m ≤ 1000000000) (ht : Tab W)
    (hT : (rNames fa.data.toList fb.data.toList ++ rHks (hs.map fun x => x.2.2)).length ≤ 10000000000000) (hsl : hs.length ≤ 1000000) :
    Calls Tryd.prog 25 #[.agg #[.string fa, .string fb, vh]] W fun e w' => e = .returned (.string (mkS (rNames fa.data.toList fb.data.toList ++ rHks (hs.map fun x => x.2.2)))) ∧ Below W.heap.size W w' := by
  obtain ⟨AH, cH, rfl⟩ := own_slice hrow
  have hl0 : hs.length ≠ 0 := by intro h; exact hne (List.length_eq_zero_iff.1 h)
  have e1 : ((hs.length : Int) == 0) = false := by simpa using hl0
  have e2 : decide ((hs.length : Int) = 0) = false := decide_eq_false (by omega)
  have HROW := Aside0.mk hrow
  have HH := Aside0.mk hh
  have HGD := Aside0.mk hg
  clear hrow hh hg
  obtain ⟨W1, hW1⟩ : ∃ W1, W1 = W.alloc (.cells #[.string fa, .string fb, .slice AH hs.length cH] 62) := ⟨_, rfl⟩
  have hs1 : W1.heap.size = W.heap.size + 1 := by rw [hW1]; simp
  have hb1 : Below W.heap.size W W1 := by rw [hW1]; exact below_alloc (Below.refl _ _) _
  have hu1 : W1.heap[W.heap.size]? = some (.cells #[.string fa, .string fb, .slice AH hs.length cH] 62 (0, 0)) := by rw [hW1]; exact new_obj W _
  have ht1 : Tab W1 := ht.stay hb1 (Nat.le_refl _)
  have hS0 : SW W1 (W.heap.size + 1) [] ((W.alloc (.cells #[.string fa, .string fb, .slice AH hs.length cH] 62)).alloc (.cells #[.pointer none, .slice none 0 0] 86)) := by
    have h := SW.new_ W1
    rw [hs1] at h
    rw [← hW1]; exact h
  have HS0 := Aside0.mk hS0
  have HB1 := Aside0.mk hb1
  have HU1 := Aside0.mk hu1
  have HT1 := Aside0.mk ht1
  have HW1 := Lib.hid hW1
  have HS1 := Lib.hid hs1
  clear hs1
  have hTn : (rNames fa.data.toList fb.data.toList).length ≤ 10000000000000 := by rw [List.length_append] at hT; omega
  have hfa : fa.size + fb.size + 10 ≤ 10000000000000 := by
    unfold rNames at hTn
    simp only [List.length_append, data_length, List.length_cons, List.length_nil] at hTn
    omega
  clear hS0 hb1 hu1 ht1 ht
  have q0 : ∀ w, Below (W.heap.size + 1) W1 w → w.cell? ⟨W.heap.size, 0, none⟩ = some (.string fa) ∧ w.cell? ⟨W.heap.size, 1, none⟩ = some (.string fb) ∧ w.cell? ⟨W.heap.size, 2, none⟩ = some (.slice AH hs.length cH) := fun w hb => by
    have h := (hb.block W.heap.size (Nat.lt_succ_self _)).trans HU1.out
    exact ⟨(blk_cell h 0).trans rfl, (blk_cell h 1).trans rfl, (blk_cell h 2).trans rfl⟩
  have HQ0 := Aside0.mk q0
  clear q0
  go_enter Tryd.func25, Tryd.ntmps25
  obtain ⟨l1, hl1⟩ : ∃ l1 : Bs, l1 = rNames fa.data.toList fb.data.toList := ⟨_, rfl⟩
  rw [← hl1] at hT ⊢
  obtain ⟨H, hH⟩ : ∃ H : List Hk, H = hs.map fun x => x.2.2 := ⟨_, rfl⟩
  rw [← hH] at hT ⊢
  have HL1 := Lib.hid hl1
  have HHH := Lib.hid hH
  clear hl1 hH hTn
  go_wp2_with (first
    | (go_at_call 33; (with_reducible refine (HS0.out.write _ ?z1).mono ?_); (case z1 => rw [size3]; show 0 + (4 + fa.size + 1) ≤ _; omega); rintro e w2 ⟨rfl, hS2, _, hz2⟩; obtain ⟨qa, qb, qc⟩ := HQ0.out w2 hS2.bl; have HS2 := Aside0.mk hS2; clear hS2)
    | (go_at_call 33; (with_reducible refine (HS2.out.write _ ?z2).mono ?_); (case z2 => rw [size3, List.length_append, data_length, size3]; show 0 + (4 + fa.size + 1) + (4 + fb.size + 1) ≤ _; omega); rintro e w3 ⟨rfl, hS3, _, hz3⟩; obtain ⟨ra, rb, rc⟩ := HQ0.out w3 hS3.bl; have HS3 := Aside0.mk hS3; clear hS3))
  go_loopg [32] hs.length (fun gk v32 wr => ∃ i : Nat, v32 = .int .i64 (i : Int) ∧ i + gk = hs.length ∧ Aside0 (SW W1 (W.heap.size + 1) (l1 ++ rHks (H.take i)) wr))
  case atStart =>
    refine ⟨0, rfl, by omega, ⟨HS3.out.cast ?_⟩⟩
    rw [HL1.out]
    simp [rNames, rHks]
  case round =>
    obtain ⟨i, rfl, hik, HS⟩ := hrel
    clear qa qb qc ra rb rc
    by_cases hlt : i < hs.length
    · obtain ⟨x, hx⟩ : ∃ x, x = hs[i] := ⟨_, rfl⟩
      have hxm : x ∈ hs := by rw [hx]; exact List.getElem_mem _
      have hxg : (hs.map fun (x : HX) => Value.pointer (some ⟨x.1, 0, none⟩))[i]? = some (.pointer (some ⟨x.1, 0, none⟩)) := by rw [List.getElem?_map, List.getElem?_eq_getElem hlt, hx]; rfl
      have hbw : ∀ w, Below (W.heap.size + 1) W1 w → Below W.heap.size W w := fun w hb => HB1.out.trans (hb.mono (Nat.le_succ _))
      have HBW := Aside0.mk hbw
      clear hbw
      obtain ⟨gr, cr, hv, hc0, _⟩ := own_get (own_fr HROW.out (Fr.of_below (HBW.out wr HS.out.bl) (fun _ => False)) (fun _ _ => id)) i _ hxg
      injection hv with hv1 hv2 hv3
      subst hv1 hv3
      clear hv2 hxg
      obtain ⟨xg, xv, xh⟩ := x
      have hHi : i < H.length := by rw [HHH.out, List.length_map]; exact hlt
      have hHx : H[i] = xh := by
        have : H[i]? = some xh := by rw [HHH.out, List.getElem?_map, List.getElem?_eq_getElem hlt, ← hx]; rfl
        rw [List.getElem?_eq_getElem hHi] at this
        exact Option.some.inj this
      have gd := HGD.out _ hxm
      have hk := HH.out _ hxm
      obtain ⟨Av, cv, hxv⟩ := own_slice hk.row
      dsimp only at gd hk hxv
      subst hxv
      have hkw : ∀ w, Below (W.heap.size + 1) W1 w → HkV w B0 xg (.slice Av xh.its.length cv) xh := fun w hb => hk.fr (Fr.of_below (HBW.out w hb) (fun _ => False)) id (fun _ _ => id)
      have hcell : ∀ w, Below (W.heap.size + 1) W1 w → w.cell? ⟨xg, 0, none⟩ = some (.int .i64 (xh.f : Int)) ∧ w.cell? ⟨xg, 1, none⟩ = some (.int .i64 (xh.t : Int)) ∧ w.cell? ⟨xg, 2, none⟩ = some (.slice Av xh.its.length cv) := fun w hb => by
        have h := hkw w hb
        exact ⟨(blk_cell h.blk 0).trans rfl, (blk_cell h.blk 1).trans rfl, (blk_cell h.blk 2).trans rfl⟩
      have hline : ∀ w, Below (W.heap.size + 1) W1 w → ∀ j, (hj : j < xh.its.length) → ∃ ga, Av = some ⟨ga, 0, none⟩ ∧ w.cell? ⟨ga, j * 2, none⟩ = some (.int .i64 (xh.its[j].k : Int)) ∧ w.cell? ⟨ga, j * 2 + 1, none⟩ = some (.string (mkS xh.its[j].l)) := fun w hb j hj => by
        have h := hkw w hb
        obtain ⟨r1, r2⟩ := rowI_get xh.its j hj
        obtain ⟨ga, ca, h1, h2, _⟩ := own_get h.row _ _ r1
        obtain ⟨gb, cb, h3, h4, _⟩ := own_get h.row _ _ r2
        injection h1 with h1
        injection h3 with h3
        rw [h1] at h3
        injection h3 with h3
        injection h3 with h3
        subst h3
        exact ⟨ga, h1, h2, h4⟩
      have HCELL := Aside0.mk hcell
      have HLINE := Aside0.mk hline
      have hlen1 : (l1 ++ rHks (H.take i)).length ≤ 10000000000000 := by
        have := rHks_take H i
        rw [List.length_append] at hT ⊢; omega
      have hlen2 : (rHk xh).length ≤ 10000000000000 := by
        have := rHk_le hHi
        rw [hHx] at this
        rw [List.length_append] at hT; omega
      have hits : xh.its.length ≤ (rHk xh).length := by
        unfold rHk
        rw [List.length_append]
        have := its_le xh.its
        omega
      have hl1' : ∃ l, l = l1 ++ rHks (H.take i) := ⟨_, rfl⟩
      obtain ⟨l, hl⟩ := hl1'
      rw [← hl] at HS hlen1
      have HLL := Lib.hid hl
      have HGG := Aside0.mk gd
      have hf1 := gd.fm
      have hf2 := gd.tm
      have HX := Lib.hid hHx
      clear hl hk hkw hcell hline gd hHx hx hxm
      obtain ⟨ca0, ca1, ca2⟩ := HCELL.out wr HS.out.bl
      have hfl := fromC_le xh.its
      have htl := toC_le xh.its
      go_wp2_with fail
      go_loopg [6, 7, 41] xh.its.length (fun gk v6 v7 v41 wx => ∃ j : Nat, v41 = .int .i64 (j : Int) ∧ j + gk = xh.its.length ∧ v6 = .int .i64 (fromC (xh.its.take j) : Int) ∧ v7 = .int .i64 (toC (xh.its.take j) : Int) ∧ Aside0 (SW W1 (W.heap.size + 1) l wx))
      case atStart => exact ⟨0, rfl, by omega, rfl, rfl, ⟨HS.out⟩⟩
      case round =>
        obtain ⟨j, rfl, hjk, rfl, rfl, HS4⟩ := hrel
        by_cases hlt2 : j < xh.its.length
        · as_aux_lemma =>
          obtain ⟨ga, hga, d0, d1⟩ := HLINE.out wr HS4.out.bl j hlt2
          subst hga
          have hfs := fromC_snoc hlt2
          have hts := toC_snoc hlt2
          have hfj := fromC_le (xh.its.take j)
          have htj := toC_le (xh.its.take j)
          rw [List.length_take] at hfj htj
          have hk2 := (HGG.out.ln _ (List.getElem_mem hlt2)).2
          have HFS := Lib.hid hfs
          have HTS := Lib.hid hts
          clear hfs hts
          obtain ⟨kk, hkk⟩ : ∃ kk, kk = xh.its[j].k := ⟨_, rfl⟩
          rw [← hkk] at d0 hk2 HFS HTS
          clear hkk
          match kk, hk2 with
          | 0, _ =>
            go_wp2_with fail
            go_roundg (xh.its.length - j - 1)
            case rel => exact ⟨j + 1, by go_num, by omega, by rw [HFS.out]; go_num, by rw [HTS.out]; go_num, ⟨HS4.out.alloc _⟩⟩
            case measure => omega
          | 1, _ =>
            go_wp2_with fail
            go_roundg (xh.its.length - j - 1)
            case rel => exact ⟨j + 1, by go_num, by omega, by rw [HFS.out]; go_num, by rw [HTS.out]; go_num, ⟨HS4.out.alloc _⟩⟩
            case measure => omega
          | 2, _ =>
            go_wp2_with fail
            go_roundg (xh.its.length - j - 1)
            case rel => exact ⟨j + 1, by go_num, by omega, by rw [HFS.out]; go_num, by rw [HTS.out]; go_num, ⟨HS4.out.alloc _⟩⟩
            case measure => omega
        · obtain rfl : j = xh.its.length := by omega
          rw [List.take_length]
          obtain ⟨ca3, ca4, ca5⟩ := HCELL.out wr HS4.out.bl
          go_upto_if 63 with (go_at_call 33; (with_reducible refine (HS4.out.write _ ?z1).mono ?_); (case z1 => (show _ + 2 ≤ _); omega); rintro e w5 ⟨rfl, hS5, _, hz5⟩; have HS5 := Aside0.mk hS5; clear hS5)
          have hmf : fromC xh.its ≤ 10000000000000 := by omega
          have hmt : toC xh.its ≤ 10000000000000 := by omega
          go_cut [] (fun wx => Aside0 (SW W1 (W.heap.size + 1) (l ++ [64, 64] ++ ([32, 45] ++ rSpan xh.f (fromC xh.its))) wx))
          case first => as_aux_lemma =>
            -- <1
            obtain ⟨cb0, cb1, cb2⟩ := HCELL.out w5 HS5.out.bl
            have hdf : (Go.Lib.decDigits xh.f).length ≤ 18 := dec_length (by decide) (by omega)
            have s1 : (mkS (Go.Lib.decDigits xh.f)).size ≤ 18 := by rw [mkS_size]; exact hdf
            have hdn : (Go.Lib.decDigits (fromC xh.its)).length ≤ 18 := dec_length (by decide) (by omega)
            have s2 : (mkS (Go.Lib.decDigits (fromC xh.its))).size ≤ 18 := by rw [mkS_size]; exact hdn
            by_cases h1 : 1 < fromC xh.its
            · have b1 : (1 : Int) < (fromC xh.its : Int) := by omega
              have b2 : decide ((1 : Int) < (fromC xh.its : Int)) = true := decide_eq_true b1
              go_wp2_with (first
                | (go_at_call 34; (with_reducible refine (HS5.out.itoa HT1.out xh.f (by omega)).mono ?_); rintro e w6 ⟨rfl, hS6, hz6⟩; have HS6 := Aside0.mk hS6; clear hS6)
                | (go_at_call 34; (with_reducible refine (HS6.out.itoa HT1.out (fromC xh.its) (by omega)).mono ?_); rintro e w7 ⟨rfl, hS7, hz7⟩; have HS7 := Aside0.mk hS7; clear hS7)
                | (go_at_call 33; (with_reducible refine (HS7.out.write _ ?z1).mono ?_); (case z1 => rw [ByteArray.size_append, ByteArray.size_append, ByteArray.size_append, mkS_size, mkS_size]; simp only [List.length_append]; (show _ + 2 + (2 + _ + 1 + _) ≤ _); omega); rintro e w8 ⟨rfl, hS8, _, hz8⟩; have HS8 := Aside0.mk hS8; clear hS8))
              go_meet
              case rel =>
                refine ⟨HS8.out.cast ?_⟩
                unfold rSpan
                rw [if_pos h1]
                simp [mkS]
            · by_cases h2 : fromC xh.its = 0
              · have h3 : xh.f = 1 := good_from HGG.out h2
                have b1 : ¬ ((1 : Int) < (fromC xh.its : Int)) := by omega
                have b2 : decide ((1 : Int) < (fromC xh.its : Int)) = false := decide_eq_false b1
                have b3 : ((xh.f : Int) == 1) = true := by simp; omega
                have b4 : decide ((xh.f : Int) = 1) = true := decide_eq_true (by omega)
                have b5 : ((fromC xh.its : Int) == 0) = true := by simp; omega
                have b6 : decide ((fromC xh.its : Int) = 0) = true := decide_eq_true (by omega)
                have H2 := Lib.hid h2
                have H3 := Lib.hid h3
                clear h2 h3
                go_wp2_with (go_at_call 33; (with_reducible refine (HS5.out.write _ ?z1).mono ?_); (case z1 => simp only [List.length_append]; (show _ + 2 + 5 ≤ _); omega); rintro e w8 ⟨rfl, hS8, _, hz8⟩; have HS8 := Aside0.mk hS8; clear hS8)
                go_meet
                case rel =>
                  refine ⟨HS8.out.cast ?_⟩
                  unfold rSpan
                  rw [if_neg h1, if_pos ⟨H3.out, H2.out⟩]
                  simp
              · have b1 : ¬ ((1 : Int) < (fromC xh.its : Int)) := by omega
                have b2 : decide ((1 : Int) < (fromC xh.its : Int)) = false := decide_eq_false b1
                have b5 : ((fromC xh.its : Int) == 0) = false := by simp; omega
                have b6 : decide ((fromC xh.its : Int) = 0) = false := decide_eq_false (by omega)
                have hnn : ¬ (xh.f = 1 ∧ fromC xh.its = 0) := fun h => h2 h.2
                by_cases h3 : xh.f = 1
                · have b3 : ((xh.f : Int) == 1) = true := by simp; omega
                  have b4 : decide ((xh.f : Int) = 1) = true := decide_eq_true (by omega)
                  have H3 := Lib.hid h3
                  clear h3
                  go_wp2_with (first
                    | (go_at_call 34; (with_reducible refine (HS5.out.itoa HT1.out xh.f (by omega)).mono ?_); rintro e w6 ⟨rfl, hS6, hz6⟩; have HS6 := Aside0.mk hS6; clear hS6)
                    | (go_at_call 33; (with_reducible refine (HS6.out.write _ ?z1).mono ?_); (case z1 => rw [ByteArray.size_append, mkS_size]; simp only [List.length_append]; (show _ + 2 + (2 + _) ≤ _); omega); rintro e w8 ⟨rfl, hS8, _, hz8⟩; have HS8 := Aside0.mk hS8; clear hS8))
                  go_meet
                  case rel =>
                    refine ⟨HS8.out.cast ?_⟩
                    unfold rSpan
                    rw [if_neg h1, if_neg hnn]
                    simp [mkS]
                · have b3 : ((xh.f : Int) == 1) = false := by simp; omega
                  have b4 : decide ((xh.f : Int) = 1) = false := decide_eq_false (by omega)
                  go_wp2_with (first
                    | (go_at_call 34; (with_reducible refine (HS5.out.itoa HT1.out xh.f (by omega)).mono ?_); rintro e w6 ⟨rfl, hS6, hz6⟩; have HS6 := Aside0.mk hS6; clear hS6)
                    | (go_at_call 33; (with_reducible refine (HS6.out.write _ ?z1).mono ?_); (case z1 => rw [ByteArray.size_append, mkS_size]; simp only [List.length_append]; (show _ + 2 + (2 + _) ≤ _); omega); rintro e w8 ⟨rfl, hS8, _, hz8⟩; have HS8 := Aside0.mk hS8; clear hS8))
                  go_meet
                  case rel =>
                    refine ⟨HS8.out.cast ?_⟩
                    unfold rSpan
                    rw [if_neg h1, if_neg hnn]
                    simp [mkS]
            -- 1>
          case rest => as_aux_lemma =>
            have HS6 := hcut
            clear HS5
            obtain ⟨l2, hl2⟩ : ∃ l2, l2 = rSpan xh.f (fromC xh.its) := ⟨_, rfl⟩
            have hl2b : l2.length ≤ 40 := by
              rw [hl2]
              exact rSpan_le (by omega) (by omega)
            rw [← hl2] at HS6
            have HL2 := Lib.hid hl2
            clear hl2 hcut
            go_upto_if 96 with fail
            go_cut [] (fun wx => Aside0 (SW W1 (W.heap.size + 1) (l ++ [64, 64] ++ ([32, 45] ++ l2) ++ ([32, 43] ++ rSpan xh.t (toC xh.its))) wx))
            case first => as_aux_lemma =>
              -- <2
              obtain ⟨cb0, cb1, cb2⟩ := HCELL.out wc HS6.out.bl
              have hdf : (Go.Lib.decDigits xh.t).length ≤ 18 := dec_length (by decide) (by omega)
              have s1 : (mkS (Go.Lib.decDigits xh.t)).size ≤ 18 := by rw [mkS_size]; exact hdf
              have hdn : (Go.Lib.decDigits (toC xh.its)).length ≤ 18 := dec_length (by decide) (by omega)
              have s2 : (mkS (Go.Lib.decDigits (toC xh.its))).size ≤ 18 := by rw [mkS_size]; exact hdn
              by_cases h1 : 1 < toC xh.its
              · have b1 : (1 : Int) < (toC xh.its : Int) := by omega
                have b2 : decide ((1 : Int) < (toC xh.its : Int)) = true := decide_eq_true b1
                go_wp2_with (first
                  | (go_at_call 34; (with_reducible refine (HS6.out.itoa HT1.out xh.t (by omega)).mono ?_); rintro e w6 ⟨rfl, hS6, hz6⟩; have HS6 := Aside0.mk hS6; clear hS6)
                  | (go_at_call 34; (with_reducible refine (HS6.out.itoa HT1.out (toC xh.its) (by omega)).mono ?_); rintro e w7 ⟨rfl, hS7, hz7⟩; have HS7 := Aside0.mk hS7; clear hS7)
                  | (go_at_call 33; (with_reducible refine (HS7.out.write _ ?z1).mono ?_); (case z1 => rw [ByteArray.size_append, ByteArray.size_append, ByteArray.size_append, mkS_size, mkS_size]; simp only [List.length_append]; (show _ + 2 + (2 + _) + (2 + _ + 1 + _) ≤ _); omega); rintro e w8 ⟨rfl, hS8, _, hz8⟩; have HS8 := Aside0.mk hS8; clear hS8))
                go_meet
                case rel =>
                  refine ⟨HS8.out.cast ?_⟩
                  unfold rSpan
                  rw [if_pos h1]
                  simp [mkS]
              · by_cases h2 : toC xh.its = 0
                · have h3 : xh.t = 1 := good_to HGG.out h2
                  have b1 : ¬ ((1 : Int) < (toC xh.its : Int)) := by omega
                  have b2 : decide ((1 : Int) < (toC xh.its : Int)) = false := decide_eq_false b1
                  have b3 : ((xh.t : Int) == 1) = true := by simp; omega
                  have b4 : decide ((xh.t : Int) = 1) = true := decide_eq_true (by omega)
                  have b5 : ((toC xh.its : Int) == 0) = true := by simp; omega
                  have b6 : decide ((toC xh.its : Int) = 0) = true := decide_eq_true (by omega)
                  have H2 := Lib.hid h2
                  have H3 := Lib.hid h3
                  clear h2 h3
                  go_wp2_with (go_at_call 33; (with_reducible refine (HS6.out.write _ ?z1).mono ?_); (case z1 => simp only [List.length_append]; (show _ + 2 + (2 + _) + 5 ≤ _); omega); rintro e w8 ⟨rfl, hS8, _, hz8⟩; have HS8 := Aside0.mk hS8; clear hS8)
                  go_meet
                  case rel =>
                    refine ⟨HS8.out.cast ?_⟩
                    unfold rSpan
                    rw [if_neg h1, if_pos ⟨H3.out, H2.out⟩]
                    simp
                · have b1 : ¬ ((1 : Int) < (toC xh.its : Int)) := by omega
                  have b2 : decide ((1 : Int) < (toC xh.its : Int)) = false := decide_eq_false b1
                  have b5 : ((toC xh.its : Int) == 0) = false := by simp; omega
                  have b6 : decide ((toC xh.its : Int) = 0) = false := decide_eq_false (by omega)
                  have hnn : ¬ (xh.t = 1 ∧ toC xh.its = 0) := fun h => h2 h.2
                  by_cases h3 : xh.t = 1
                  · have b3 : ((xh.t : Int) == 1) = true := by simp; omega
                    have b4 : decide ((xh.t : Int) = 1) = true := decide_eq_true (by omega)
                    have H3 := Lib.hid h3
                    clear h3
                    go_wp2_with (first
                      | (go_at_call 34; (with_reducible refine (HS6.out.itoa HT1.out xh.t (by omega)).mono ?_); rintro e w6 ⟨rfl, hS6, hz6⟩; have HS6 := Aside0.mk hS6; clear hS6)
                      | (go_at_call 33; (with_reducible refine (HS6.out.write _ ?z1).mono ?_); (case z1 => rw [ByteArray.size_append, mkS_size]; simp only [List.length_append]; (show _ + 2 + (2 + _) + (2 + _) ≤ _); omega); rintro e w8 ⟨rfl, hS8, _, hz8⟩; have HS8 := Aside0.mk hS8; clear hS8))
                    go_meet
                    case rel =>
                      refine ⟨HS8.out.cast ?_⟩
                      unfold rSpan
                      rw [if_neg h1, if_neg hnn]
                      simp [mkS]
                  · have b3 : ((xh.t : Int) == 1) = false := by simp; omega
                    have b4 : decide ((xh.t : Int) = 1) = false := decide_eq_false (by omega)
                    go_wp2_with (first
                      | (go_at_call 34; (with_reducible refine (HS6.out.itoa HT1.out xh.t (by omega)).mono ?_); rintro e w6 ⟨rfl, hS6, hz6⟩; have HS6 := Aside0.mk hS6; clear hS6)
                      | (go_at_call 33; (with_reducible refine (HS6.out.write _ ?z1).mono ?_); (case z1 => rw [ByteArray.size_append, mkS_size]; simp only [List.length_append]; (show _ + 2 + (2 + _) + (2 + _) ≤ _); omega); rintro e w8 ⟨rfl, hS8, _, hz8⟩; have HS8 := Aside0.mk hS8; clear hS8))
                    go_meet
                    case rel =>
                      refine ⟨HS8.out.cast ?_⟩
                      unfold rSpan
                      rw [if_neg h1, if_neg hnn]
                      simp [mkS]
              -- 2>
            case rest => as_aux_lemma =>
              have HS8 := hcut
              clear HS6 hcut
              obtain ⟨l4, hl4⟩ : ∃ l4, l4 = l ++ rHead xh := ⟨_, rfl⟩
              have hr3 : (rSpan xh.t (toC xh.its)).length ≤ 40 := rSpan_le (by omega) (by omega)
              have h4b : l4.length ≤ 10000000001000 := by
                rw [hl4, List.length_append]
                unfold rHead
                rw [← HL2.out]
                simp only [List.length_append, List.length_cons, List.length_nil]
                omega
              have HL4 := Lib.hid hl4
              clear hl4
              go_wp2_with (go_at_call 33; (with_reducible refine (HS8.out.write _ ?z1).mono ?_); (case z1 => simp only [List.length_append]; (show _ + 2 + (2 + _) + (2 + _) + 4 ≤ _); omega); rintro e w5 ⟨rfl, hS5, _, hz5⟩; (have hS9 : SW W1 (W.heap.size + 1) l4 w5 := hS5.cast (by rw [HL4.out]; unfold rHead; rw [← HL2.out]; simp)); have HS9 := Aside0.mk hS9; obtain ⟨cc0, cc1, cc2⟩ := HCELL.out w5 hS9.bl; clear hS5 hS9)
              clear HS8
              have hri := rIts_take xh.its
              have hrl : (rIts xh.its).length ≤ (rHk xh).length := by unfold rHk; rw [List.length_append]; omega
              go_loopg [135] xh.its.length (fun gk v135 wx => ∃ j : Nat, v135 = .int .i64 (j : Int) ∧ j + gk = xh.its.length ∧ Aside0 (SW W1 (W.heap.size + 1) (l4 ++ rIts (xh.its.take j)) wx))
              case atStart => exact ⟨0, rfl, by omega, ⟨HS9.out.cast (by simp [rIts])⟩⟩
              case round => as_aux_lemma =>
                -- <3
                obtain ⟨j, rfl, hjk, HS10'⟩ := hrel
                by_cases hlt2 : j < xh.its.length
                · obtain ⟨ga, hga, d0, d1⟩ := HLINE.out wr HS10'.out.bl j hlt2
                  subst hga
                  have hk2 := (HGG.out.ln _ (List.getElem_mem hlt2)).2
                  obtain ⟨⟨kk, ll⟩, hkl⟩ : ∃ it, it = xh.its[j] := ⟨_, rfl⟩
                  rw [← hkl] at d0 d1 hk2
                  have HKL := Lib.hid hkl.symm
                  have hil := rIt_le hlt2
                  rw [← hkl] at hil
                  have hil2 : ll.length + 1 ≤ (rIts xh.its).length := by unfold rIt at hil; simp at hil; omega
                  have hri2 := hri j
                  have hl5 : (l4 ++ rIts (xh.its.take j)).length ≤ 30000000000000 := by rw [List.length_append]; omega
                  obtain ⟨be, hbe⟩ : ∃ b, b = decide (EndNl ll) := ⟨_, rfl⟩
                  have hsu := suffix_at ll (by omega)
                  rw [← hbe] at hsu
                  have HSU := Aside0.mk hsu
                  have HBE := Lib.hid hbe
                  have s3 : (mkS ll).size ≤ 10000000000000 := by rw [mkS_size]; omega
                  clear hsu hbe hkl hil hri2
                  dsimp only at d0 d1 hk2
                  match kk, hk2 with
                | 0, _ =>
                  have HS10 := Aside0.mk (HS10'.out.alloc (.cells #[.int .i64 0, .string (mkS ll)] 82))
                  cases be with
                  | true =>
                    go_wp2_with (first
                      | (go_at_call 33; (with_reducible refine (HS10.out.write _ ?z1).mono ?_); (case z1 => rw [ByteArray.size_append, mkS_size]; (show _ + (1 + _) ≤ _); omega); rintro e w6 ⟨rfl, hS6, hk6, hz6⟩; have d2 : w6.cell? ⟨wr.heap.size, 1, none⟩ = some (.string (mkS ll)) := (blk_cell (hk6 _ _ (new_obj wr _)) 1).trans rfl; have HS11 := Aside0.mk hS6; clear hS6 hk6)
                      | (go_at_call 35; (with_reducible refine (HSU.out _).mono ?_); rintro e w7 ⟨rfl, rfl⟩))
                    go_roundg (xh.its.length - j - 1)
                    case rel =>
                      refine ⟨j + 1, by go_num, by omega, ⟨HS11.out.cast ?_⟩⟩
                      rw [rIts_snoc hlt2, HKL.out]
                      unfold rIt
                      rw [if_pos (of_decide_eq_true HBE.out.symm)]
                      simp [mkS, sign]
                    case measure => omega
                  | false =>
                    go_wp2_with (first
                      | (go_at_call 33; (with_reducible refine (HS10.out.write _ ?z1).mono ?_); (case z1 => rw [ByteArray.size_append, mkS_size]; (show _ + (1 + _) ≤ _); omega); rintro e w6 ⟨rfl, hS6, hk6, hz6⟩; have d2 : w6.cell? ⟨wr.heap.size, 1, none⟩ = some (.string (mkS ll)) := (blk_cell (hk6 _ _ (new_obj wr _)) 1).trans rfl; have HS11 := Aside0.mk hS6; clear hS6 hk6)
                      | (go_at_call 35; (with_reducible refine (HSU.out _).mono ?_); rintro e w7 ⟨rfl, rfl⟩)
                      | (go_at_call 33; (with_reducible refine (HS11.out.write _ ?z1).mono ?_); (case z1 => rw [List.length_append, data_length, ByteArray.size_append, mkS_size]; (show _ + (1 + _) + 29 ≤ _); omega); rintro e w8 ⟨rfl, hS8, _, hz8⟩; have HS12 := Aside0.mk hS8; clear hS8))
                    go_roundg (xh.its.length - j - 1)
                    case rel =>
                      refine ⟨j + 1, by go_num, by omega, ⟨HS12.out.cast ?_⟩⟩
                      rw [rIts_snoc hlt2, HKL.out]
                      unfold rIt
                      rw [if_neg (of_decide_eq_false HBE.out.symm)]
                      simp [mkS, sign, noEnd]
                    case measure => omega
                | 1, _ =>
                  have HS10 := Aside0.mk (HS10'.out.alloc (.cells #[.int .i64 1, .string (mkS ll)] 82))
                  cases be with
                  | true =>
                    go_wp2_with (first
                      | (go_at_call 33; (with_reducible refine (HS10.out.write _ ?z1).mono ?_); (case z1 => rw [ByteArray.size_append, mkS_size]; (show _ + (1 + _) ≤ _); omega); rintro e w6 ⟨rfl, hS6, hk6, hz6⟩; have d2 : w6.cell? ⟨wr.heap.size, 1, none⟩ = some (.string (mkS ll)) := (blk_cell (hk6 _ _ (new_obj wr _)) 1).trans rfl; have HS11 := Aside0.mk hS6; clear hS6 hk6)
                      | (go_at_call 35; (with_reducible refine (HSU.out _).mono ?_); rintro e w7 ⟨rfl, rfl⟩))
                    go_roundg (xh.its.length - j - 1)
                    case rel =>
                      refine ⟨j + 1, by go_num, by omega, ⟨HS11.out.cast ?_⟩⟩
                      rw [rIts_snoc hlt2, HKL.out]
                      unfold rIt
                      rw [if_pos (of_decide_eq_true HBE.out.symm)]
                      simp [mkS, sign]
                    case measure => omega
                  | false =>
                    go_wp2_with (first
                      | (go_at_call 33; (with_reducible refine (HS10.out.write _ ?z1).mono ?_); (case z1 => rw [ByteArray.size_append, mkS_size]; (show _ + (1 + _) ≤ _); omega); rintro e w6 ⟨rfl, hS6, hk6, hz6⟩; have d2 : w6.cell? ⟨wr.heap.size, 1, none⟩ = some (.string (mkS ll)) := (blk_cell (hk6 _ _ (new_obj wr _)) 1).trans rfl; have HS11 := Aside0.mk hS6; clear hS6 hk6)
                      | (go_at_call 35; (with_reducible refine (HSU.out _).mono ?_); rintro e w7 ⟨rfl, rfl⟩)
                      | (go_at_call 33; (with_reducible refine (HS11.out.write _ ?z1).mono ?_); (case z1 => rw [List.length_append, data_length, ByteArray.size_append, mkS_size]; (show _ + (1 + _) + 29 ≤ _); omega); rintro e w8 ⟨rfl, hS8, _, hz8⟩; have HS12 := Aside0.mk hS8; clear hS8))
                    go_roundg (xh.its.length - j - 1)
                    case rel =>
                      refine ⟨j + 1, by go_num, by omega, ⟨HS12.out.cast ?_⟩⟩
                      rw [rIts_snoc hlt2, HKL.out]
                      unfold rIt
                      rw [if_neg (of_decide_eq_false HBE.out.symm)]
                      simp [mkS, sign, noEnd]
                    case measure => omega
                | 2, _ =>
                  have HS10 := Aside0.mk (HS10'.out.alloc (.cells #[.int .i64 2, .string (mkS ll)] 82))
                  cases be with
                  | true =>
                    go_wp2_with (first
                      | (go_at_call 33; (with_reducible refine (HS10.out.write _ ?z1).mono ?_); (case z1 => rw [ByteArray.size_append, mkS_size]; (show _ + (1 + _) ≤ _); omega); rintro e w6 ⟨rfl, hS6, hk6, hz6⟩; have d2 : w6.cell? ⟨wr.heap.size, 1, none⟩ = some (.string (mkS ll)) := (blk_cell (hk6 _ _ (new_obj wr _)) 1).trans rfl; have HS11 := Aside0.mk hS6; clear hS6 hk6)
                      | (go_at_call 35; (with_reducible refine (HSU.out _).mono ?_); rintro e w7 ⟨rfl, rfl⟩))
                    go_roundg (xh.its.length - j - 1)
                    case rel =>
                      refine ⟨j + 1, by go_num, by omega, ⟨HS11.out.cast ?_⟩⟩
                      rw [rIts_snoc hlt2, HKL.out]
                      unfold rIt
                      rw [if_pos (of_decide_eq_true HBE.out.symm)]
                      simp [mkS, sign]
                    case measure => omega
                  | false =>
                    go_wp2_with (first
                      | (go_at_call 33; (with_reducible refine (HS10.out.write _ ?z1).mono ?_); (case z1 => rw [ByteArray.size_append, mkS_size]; (show _ + (1 + _) ≤ _); omega); rintro e w6 ⟨rfl, hS6, hk6, hz6⟩; have d2 : w6.cell? ⟨wr.heap.size, 1, none⟩ = some (.string (mkS ll)) := (blk_cell (hk6 _ _ (new_obj wr _)) 1).trans rfl; have HS11 := Aside0.mk hS6; clear hS6 hk6)
                      | (go_at_call 35; (with_reducible refine (HSU.out _).mono ?_); rintro e w7 ⟨rfl, rfl⟩)
                      | (go_at_call 33; (with_reducible refine (HS11.out.write _ ?z1).mono ?_); (case z1 => rw [List.length_append, data_length, ByteArray.size_append, mkS_size]; (show _ + (1 + _) + 29 ≤ _); omega); rintro e w8 ⟨rfl, hS8, _, hz8⟩; have HS12 := Aside0.mk hS8; clear hS8))
                    go_roundg (xh.its.length - j - 1)
                    case rel =>
                      refine ⟨j + 1, by go_num, by omega, ⟨HS12.out.cast ?_⟩⟩
                      rw [rIts_snoc hlt2, HKL.out]
                      unfold rIt
                      rw [if_neg (of_decide_eq_false HBE.out.symm)]
                      simp [mkS, sign, noEnd]
                    case measure => omega
                · obtain rfl : j = xh.its.length := by omega
                  rw [List.take_length] at HS10'
                  go_wp2_with fail
                  go_roundg (hs.length - i - 1)
                  case rel =>
                    refine ⟨i + 1, by go_num, by omega, ⟨HS10'.out.cast ?_⟩⟩
                    rw [rHks_snoc hHi, HX.out, HL4.out, HLL.out]
                    unfold rHk
                    simp only [List.append_assoc]
                  case measure => omega
                -- 3>
    · obtain rfl : i = hs.length := by omega
      have hall : H.take hs.length = H := List.take_of_length_le (by rw [HHH.out, List.length_map]; exact Nat.le_refl _)
      rw [hall] at HS
      go_wp2_with (go_at_call 36; (with_reducible refine HS.out.string.mono ?_); rintro e w5 ⟨rfl, hb5⟩; have HB5 := Aside0.mk hb5; clear hb5)
      go_ret
      exact ⟨rfl, HB1.out.trans (HB5.out.mono (Nat.le_succ _))⟩
end Go.Proofs.YtonajgipkpnpoaaDoor.Un
