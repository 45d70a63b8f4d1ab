/- unified.String: the text of hunks. The plain law of hunks: how long a form is; what a reader is told. diff.ToUnified, impl.ToUnified. -/
import Derived.Test.YtonajgipkpnpoaaGreatDoorC27
import Derived.Deep.LoopGhost
import Derived.Deep.DeepCutAuto
import Derived.Test.YtonajgipkpnpoaaGreatDoorC02
import Derived.Test.YtonajgipkpnpoaaGreatDoorC29
import Derived.Test.YtonajgipkpnpoaaGreatDoorC21
import Derived.Deep.QuietTactic
import Derived.BigQuiet
namespace Go.Proofs.YtonajgipkpnpoaaGreatDoor.Un
open Go.RowKit Go.Proofs.YtonajgipkpnpoaaGreatDoorW.PrintWords Go.Proofs.YtonajgipkpnpoaaGreatDoorW.PrintLast Go.Proofs.YtonajgipkpnpoaaGreatDoorW.PrintMore Go.Uni
set_option linter.unusedVariables false
set_option linter.unusedSimpArgs false
theorem size3 (a s b : ByteArray) : (a ++ s ++ b).size = a.size + s.size + b.size := by rw [ByteArray.size_append, ByteArray.size_append]
theorem its_le : ∀ its : List It, its.length ≤ (rIts its).length
  | [] => Nat.le_refl _
  | i :: t => by
    have := its_le t
    unfold rIts at this ⊢
    rw [List.map_cons, List.flatten_cons, List.length_append, List.length_cons]
    have : 1 ≤ (rIt i).length := by unfold rIt; simp
    omega
theorem rSpan_le {f n : Nat} (hf : f < 10 ^ 18) (hn : n < 10 ^ 18) : (rSpan f n).length ≤ 40 := by
  have h1 := dec_length (k := 18) (by decide) hf
  have h2 := dec_length (k := 18) (by decide) hn
  unfold rSpan
  split
  · simp; omega
  · split
    · simp
    · omega
set_option maxRecDepth 100000 in
set_option maxHeartbeats 4000000 in
theorem string_none (W : World) (fa fb : ByteArray) : Calls Tryz.prog 32 #[.agg #[.string fa, .string fb, .slice none 0 0]] W fun e w' => e = .returned (.string ⟨#[]⟩) ∧ Below W.heap.size W w' := by
  go_enter Tryz.func32, Tryz.ntmps32
  go_wp2_with fail
  go_ret
  exact ⟨rfl, below_alloc (Below.refl _ _) _⟩
set_option maxRecDepth 100000 in
set_option maxHeartbeats 4000000 in
theorem string_calls (W : World) (fa fb : ByteArray) (vh : Value) (hs : List HX) (B0 m : Nat) (hne : hs ≠ []) (hrow : W.ownsRow B0 86 1 vh hs.length (hs.map fun (x : HX) => .pointer (some ⟨x.1, 0, none⟩))) (hh : ∀ x ∈ hs, HkV W B0 x.1 x.2.1 x.2.2) (hg : ∀ x ∈ hs, Go.Uni.Good m x.2.2) (hm : m ≤ 1000000000) (ht : Tab W)
    (hT : (rNames fa.data.toList fb.data.toList ++ rHks (hs.map fun x => x.2.2)).length ≤ 10000000000000) (hsl : hs.length ≤ 1000000) :
    Calls Tryz.prog 32 #[.agg #[.string fa, .string fb, vh]] W fun e w' => e = .returned (.string (mkS (rNames fa.data.toList fb.data.toList ++ rHks (hs.map fun x => x.2.2)))) ∧ Below W.heap.size W w' := by
  obtain ⟨AH, cH, rfl⟩ := own_slice hrow
  have hl0 : hs.length ≠ 0 := by intro h; exact hne (List.length_eq_zero_iff.1 h)
  have e1 : ((hs.length : Int) == 0) = false := by simpa using hl0
  have e2 : decide ((hs.length : Int) = 0) = false := decide_eq_false (by omega)
  have HROW := Aside0.mk hrow
  have HH := Aside0.mk hh
  have HGD := Aside0.mk hg
  clear hrow hh hg
  obtain ⟨W1, hW1⟩ : ∃ W1, W1 = W.alloc (.cells #[.string fa, .string fb, .slice AH hs.length cH] 62) := ⟨_, rfl⟩
  have hs1 : W1.heap.size = W.heap.size + 1 := by rw [hW1]; simp
  have hb1 : Below W.heap.size W W1 := by rw [hW1]; exact below_alloc (Below.refl _ _) _
  have hu1 : W1.heap[W.heap.size]? = some (.cells #[.string fa, .string fb, .slice AH hs.length cH] 62 (0, 0)) := by rw [hW1]; exact new_obj W _
  have ht1 : Tab W1 := ht.stay hb1 (Nat.le_refl _)
  have hS0 : SW W1 (W.heap.size + 1) [] ((W.alloc (.cells #[.string fa, .string fb, .slice AH hs.length cH] 62)).alloc (.cells #[.pointer none, .slice none 0 0] 97)) := by
    have h := SW.new_ W1
    rw [hs1] at h
    rw [← hW1]; exact h
  have HS0 := Aside0.mk hS0
  have HB1 := Aside0.mk hb1
  have HU1 := Aside0.mk hu1
  have HT1 := Aside0.mk ht1
  have HW1 := Lib.hid hW1
  have HS1 := Lib.hid hs1
  clear hs1
  have hTn : (rNames fa.data.toList fb.data.toList).length ≤ 10000000000000 := by rw [List.length_append] at hT; omega
  have hfa : fa.size + fb.size + 10 ≤ 10000000000000 := by
    unfold rNames at hTn
    simp only [List.length_append, data_length, List.length_cons, List.length_nil] at hTn
    omega
  clear hS0 hb1 hu1 ht1 ht
  have q0 : ∀ w, Below (W.heap.size + 1) W1 w → w.cell? ⟨W.heap.size, 0, none⟩ = some (.string fa) ∧ w.cell? ⟨W.heap.size, 1, none⟩ = some (.string fb) ∧ w.cell? ⟨W.heap.size, 2, none⟩ = some (.slice AH hs.length cH) := fun w hb => by
    have h := (hb.block W.heap.size (Nat.lt_succ_self _)).trans HU1.out
    exact ⟨(blk_cell h 0).trans rfl, (blk_cell h 1).trans rfl, (blk_cell h 2).trans rfl⟩
  have HQ0 := Aside0.mk q0
  clear q0
  go_enter Tryz.func32, Tryz.ntmps32
  obtain ⟨l1, hl1⟩ : ∃ l1 : Bs, l1 = rNames fa.data.toList fb.data.toList := ⟨_, rfl⟩
  rw [← hl1] at hT ⊢
  obtain ⟨H, hH⟩ : ∃ H : List Hk, H = hs.map fun x => x.2.2 := ⟨_, rfl⟩
  rw [← hH] at hT ⊢
  have HL1 := Lib.hid hl1
  have HHH := Lib.hid hH
  clear hl1 hH hTn
  go_wp2_with (first
    | (go_at_call 45; (with_reducible refine (HS0.out.write _ ?z1).mono ?_); (case z1 => rw [size3]; show 0 + (4 + fa.size + 1) ≤ _; omega); rintro e w2 ⟨rfl, hS2, _, hz2⟩; obtain ⟨qa, qb, qc⟩ := HQ0.out w2 hS2.bl; have HS2 := Aside0.mk hS2; clear hS2)
    | (go_at_call 45; (with_reducible refine (HS2.out.write _ ?z2).mono ?_); (case z2 => rw [size3, List.length_append, data_length, size3]; show 0 + (4 + fa.size + 1) + (4 + fb.size + 1) ≤ _; omega); rintro e w3 ⟨rfl, hS3, _, hz3⟩; obtain ⟨ra, rb, rc⟩ := HQ0.out w3 hS3.bl; have HS3 := Aside0.mk hS3; clear hS3))
  go_loopg [32] hs.length (fun gk v32 wr => ∃ i : Nat, v32 = .int .i64 (i : Int) ∧ i + gk = hs.length ∧ Aside0 (SW W1 (W.heap.size + 1) (l1 ++ rHks (H.take i)) wr))
  case atStart =>
    refine ⟨0, rfl, by omega, ⟨HS3.out.cast ?_⟩⟩
    rw [HL1.out]
    simp [rNames, rHks]
  case round =>
    obtain ⟨i, rfl, hik, HS⟩ := hrel
    clear qa qb qc ra rb rc
    by_cases hlt : i < hs.length
    · obtain ⟨x, hx⟩ : ∃ x, x = hs[i] := ⟨_, rfl⟩
      have hxm : x ∈ hs := by rw [hx]; exact List.getElem_mem _
      have hxg : (hs.map fun (x : HX) => Value.pointer (some ⟨x.1, 0, none⟩))[i]? = some (.pointer (some ⟨x.1, 0, none⟩)) := by rw [List.getElem?_map, List.getElem?_eq_getElem hlt, hx]; rfl
      have hbw : ∀ w, Below (W.heap.size + 1) W1 w → Below W.heap.size W w := fun w hb => HB1.out.trans (hb.mono (Nat.le_succ _))
      have HBW := Aside0.mk hbw
      clear hbw
      obtain ⟨gr, cr, hv, hc0, _⟩ := own_get (own_fr HROW.out (Fr.of_below (HBW.out wr HS.out.bl) (fun _ => False)) (fun _ _ => id)) i _ hxg
      injection hv with hv1 hv2 hv3
      subst hv1 hv3
      clear hv2 hxg
      obtain ⟨xg, xv, xh⟩ := x
      have hHi : i < H.length := by rw [HHH.out, List.length_map]; exact hlt
      have hHx : H[i] = xh := by
        have : H[i]? = some xh := by rw [HHH.out, List.getElem?_map, List.getElem?_eq_getElem hlt, ← hx]; rfl
        rw [List.getElem?_eq_getElem hHi] at this
        exact Option.some.inj this
      have gd := HGD.out _ hxm
      have hk := HH.out _ hxm
      obtain ⟨Av, cv, hxv⟩ := own_slice hk.row
      dsimp only at gd hk hxv
      subst hxv
      have hkw : ∀ w, Below (W.heap.size + 1) W1 w → HkV w B0 xg (.slice Av xh.its.length cv) xh := fun w hb => hk.fr (Fr.of_below (HBW.out w hb) (fun _ => False)) id (fun _ _ => id)
      have hcell : ∀ w, Below (W.heap.size + 1) W1 w → w.cell? ⟨xg, 0, none⟩ = some (.int .i64 (xh.f : Int)) ∧ w.cell? ⟨xg, 1, none⟩ = some (.int .i64 (xh.t : Int)) ∧ w.cell? ⟨xg, 2, none⟩ = some (.slice Av xh.its.length cv) := fun w hb => by
        have h := hkw w hb
        exact ⟨(blk_cell h.blk 0).trans rfl, (blk_cell h.blk 1).trans rfl, (blk_cell h.blk 2).trans rfl⟩
      have hline : ∀ w, Below (W.heap.size + 1) W1 w → ∀ j, (hj : j < xh.its.length) → ∃ ga, Av = some ⟨ga, 0, none⟩ ∧ w.cell? ⟨ga, j * 2, none⟩ = some (.int .i64 (xh.its[j].k : Int)) ∧ w.cell? ⟨ga, j * 2 + 1, none⟩ = some (.string (mkS xh.its[j].l)) := fun w hb j hj => by
        have h := hkw w hb
        obtain ⟨r1, r2⟩ := rowI_get xh.its j hj
        obtain ⟨ga, ca, h1, h2, _⟩ := own_get h.row _ _ r1
        obtain ⟨gb, cb, h3, h4, _⟩ := own_get h.row _ _ r2
        injection h1 with h1
        injection h3 with h3
        rw [h1] at h3
        injection h3 with h3
        injection h3 with h3
        subst h3
        exact ⟨ga, h1, h2, h4⟩
      have HCELL := Aside0.mk hcell
      have HLINE := Aside0.mk hline
      have hlen1 : (l1 ++ rHks (H.take i)).length ≤ 10000000000000 := by
        have := rHks_take H i
        rw [List.length_append] at hT ⊢; omega
      have hlen2 : (rHk xh).length ≤ 10000000000000 := by
        have := rHk_le hHi
        rw [hHx] at this
        rw [List.length_append] at hT; omega
      have hits : xh.its.length ≤ (rHk xh).length := by
        unfold rHk
        rw [List.length_append]
        have := its_le xh.its
        omega
      have hl1' : ∃ l, l = l1 ++ rHks (H.take i) := ⟨_, rfl⟩
      obtain ⟨l, hl⟩ := hl1'
      rw [← hl] at HS hlen1
      have HLL := Lib.hid hl
      have HGG := Aside0.mk gd
      have hf1 := gd.fm
      have hf2 := gd.tm
      have HX := Lib.hid hHx
      clear hl hk hkw hcell hline gd hHx hx hxm
      obtain ⟨ca0, ca1, ca2⟩ := HCELL.out wr HS.out.bl
      have hfl := fromC_le xh.its
      have htl := toC_le xh.its
      go_wp2_with fail
      go_loopg [6, 7, 41] xh.its.length (fun gk v6 v7 v41 wx => ∃ j : Nat, v41 = .int .i64 (j : Int) ∧ j + gk = xh.its.length ∧ v6 = .int .i64 (fromC (xh.its.take j) : Int) ∧ v7 = .int .i64 (toC (xh.its.take j) : Int) ∧ Aside0 (SW W1 (W.heap.size + 1) l wx))
      case atStart => exact ⟨0, rfl, by omega, rfl, rfl, ⟨HS.out⟩⟩
      case round =>
        obtain ⟨j, rfl, hjk, rfl, rfl, HS4⟩ := hrel
        by_cases hlt2 : j < xh.its.length
        · as_aux_lemma =>
          obtain ⟨ga, hga, d0, d1⟩ := HLINE.out wr HS4.out.bl j hlt2
          subst hga
          have hfs := fromC_snoc hlt2
          have hts := toC_snoc hlt2
          have hfj := fromC_le (xh.its.take j)
          have htj := toC_le (xh.its.take j)
          rw [List.length_take] at hfj htj
          have hk2 := (HGG.out.ln _ (List.getElem_mem hlt2)).2
          have HFS := Lib.hid hfs
          have HTS := Lib.hid hts
          clear hfs hts
          obtain ⟨kk, hkk⟩ : ∃ kk, kk = xh.its[j].k := ⟨_, rfl⟩
          rw [← hkk] at d0 hk2 HFS HTS
          clear hkk
          match kk, hk2 with
          | 0, _ =>
            go_wp2_with fail
            go_roundg (xh.its.length - j - 1)
            case rel => exact ⟨j + 1, by go_num, by omega, by rw [HFS.out]; go_num, by rw [HTS.out]; go_num, ⟨HS4.out.alloc _⟩⟩
            case measure => omega
          | 1, _ =>
            go_wp2_with fail
            go_roundg (xh.its.length - j - 1)
            case rel => exact ⟨j + 1, by go_num, by omega, by rw [HFS.out]; go_num, by rw [HTS.out]; go_num, ⟨HS4.out.alloc _⟩⟩
            case measure => omega
          | 2, _ =>
            go_wp2_with fail
            go_roundg (xh.its.length - j - 1)
            case rel => exact ⟨j + 1, by go_num, by omega, by rw [HFS.out]; go_num, by rw [HTS.out]; go_num, ⟨HS4.out.alloc _⟩⟩
            case measure => omega
        · obtain rfl : j = xh.its.length := by omega
          rw [List.take_length]
          obtain ⟨ca3, ca4, ca5⟩ := HCELL.out wr HS4.out.bl
          go_upto_if 63 with (go_at_call 45; (with_reducible refine (HS4.out.write _ ?z1).mono ?_); (case z1 => (show _ + 2 ≤ _); omega); rintro e w5 ⟨rfl, hS5, _, hz5⟩; have HS5 := Aside0.mk hS5; clear hS5)
          have hmf : fromC xh.its ≤ 10000000000000 := by omega
          have hmt : toC xh.its ≤ 10000000000000 := by omega
          go_cut [] (fun wx => Aside0 (SW W1 (W.heap.size + 1) (l ++ [64, 64] ++ ([32, 45] ++ rSpan xh.f (fromC xh.its))) wx))
          case first => as_aux_lemma =>
            -- <1
            obtain ⟨cb0, cb1, cb2⟩ := HCELL.out w5 HS5.out.bl
            have hdf : (Go.Lib.decDigits xh.f).length ≤ 18 := dec_length (by decide) (by omega)
            have s1 : (mkS (Go.Lib.decDigits xh.f)).size ≤ 18 := by rw [mkS_size]; exact hdf
            have hdn : (Go.Lib.decDigits (fromC xh.its)).length ≤ 18 := dec_length (by decide) (by omega)
            have s2 : (mkS (Go.Lib.decDigits (fromC xh.its))).size ≤ 18 := by rw [mkS_size]; exact hdn
            by_cases h1 : 1 < fromC xh.its
            · have b1 : (1 : Int) < (fromC xh.its : Int) := by omega
              have b2 : decide ((1 : Int) < (fromC xh.its : Int)) = true := decide_eq_true b1
              go_wp2_with (first
                | (go_at_call 46; (with_reducible refine (HS5.out.itoa HT1.out xh.f (by omega)).mono ?_); rintro e w6 ⟨rfl, hS6, hz6⟩; have HS6 := Aside0.mk hS6; clear hS6)
                | (go_at_call 46; (with_reducible refine (HS6.out.itoa HT1.out (fromC xh.its) (by omega)).mono ?_); rintro e w7 ⟨rfl, hS7, hz7⟩; have HS7 := Aside0.mk hS7; clear hS7)
                | (go_at_call 45; (with_reducible refine (HS7.out.write _ ?z1).mono ?_); (case z1 => rw [ByteArray.size_append, ByteArray.size_append, ByteArray.size_append, mkS_size, mkS_size]; simp only [List.length_append]; (show _ + 2 + (2 + _ + 1 + _) ≤ _); omega); rintro e w8 ⟨rfl, hS8, _, hz8⟩; have HS8 := Aside0.mk hS8; clear hS8))
              go_meet
              case rel =>
                refine ⟨HS8.out.cast ?_⟩
                unfold rSpan
                rw [if_pos h1]
                simp [mkS]
            · by_cases h2 : fromC xh.its = 0
              · have h3 : xh.f = 1 := good_from HGG.out h2
                have b1 : ¬ ((1 : Int) < (fromC xh.its : Int)) := by omega
                have b2 : decide ((1 : Int) < (fromC xh.its : Int)) = false := decide_eq_false b1
                have b3 : ((xh.f : Int) == 1) = true := by simp; omega
                have b4 : decide ((xh.f : Int) = 1) = true := decide_eq_true (by omega)
                have b5 : ((fromC xh.its : Int) == 0) = true := by simp; omega
                have b6 : decide ((fromC xh.its : Int) = 0) = true := decide_eq_true (by omega)
                have H2 := Lib.hid h2
                have H3 := Lib.hid h3
                clear h2 h3
                go_wp2_with (go_at_call 45; (with_reducible refine (HS5.out.write _ ?z1).mono ?_); (case z1 => simp only [List.length_append]; (show _ + 2 + 5 ≤ _); omega); rintro e w8 ⟨rfl, hS8, _, hz8⟩; have HS8 := Aside0.mk hS8; clear hS8)
                go_meet
                case rel =>
                  refine ⟨HS8.out.cast ?_⟩
                  unfold rSpan
                  rw [if_neg h1, if_pos ⟨H3.out, H2.out⟩]
                  simp
              · have b1 : ¬ ((1 : Int) < (fromC xh.its : Int)) := by omega
                have b2 : decide ((1 : Int) < (fromC xh.its : Int)) = false := decide_eq_false b1
                have b5 : ((fromC xh.its : Int) == 0) = false := by simp; omega
                have b6 : decide ((fromC xh.its : Int) = 0) = false := decide_eq_false (by omega)
                have hnn : ¬ (xh.f = 1 ∧ fromC xh.its = 0) := fun h => h2 h.2
                by_cases h3 : xh.f = 1
                · have b3 : ((xh.f : Int) == 1) = true := by simp; omega
                  have b4 : decide ((xh.f : Int) = 1) = true := decide_eq_true (by omega)
                  have H3 := Lib.hid h3
                  clear h3
                  go_wp2_with (first
                    | (go_at_call 46; (with_reducible refine (HS5.out.itoa HT1.out xh.f (by omega)).mono ?_); rintro e w6 ⟨rfl, hS6, hz6⟩; have HS6 := Aside0.mk hS6; clear hS6)
                    | (go_at_call 45; (with_reducible refine (HS6.out.write _ ?z1).mono ?_); (case z1 => rw [ByteArray.size_append, mkS_size]; simp only [List.length_append]; (show _ + 2 + (2 + _) ≤ _); omega); rintro e w8 ⟨rfl, hS8, _, hz8⟩; have HS8 := Aside0.mk hS8; clear hS8))
                  go_meet
                  case rel =>
                    refine ⟨HS8.out.cast ?_⟩
                    unfold rSpan
                    rw [if_neg h1, if_neg hnn]
                    simp [mkS]
                · have b3 : ((xh.f : Int) == 1) = false := by simp; omega
                  have b4 : decide ((xh.f : Int) = 1) = false := decide_eq_false (by omega)
                  go_wp2_with (first
                    | (go_at_call 46; (with_reducible refine (HS5.out.itoa HT1.out xh.f (by omega)).mono ?_); rintro e w6 ⟨rfl, hS6, hz6⟩; have HS6 := Aside0.mk hS6; clear hS6)
                    | (go_at_call 45; (with_reducible refine (HS6.out.write _ ?z1).mono ?_); (case z1 => rw [ByteArray.size_append, mkS_size]; simp only [List.length_append]; (show _ + 2 + (2 + _) ≤ _); omega); rintro e w8 ⟨rfl, hS8, _, hz8⟩; have HS8 := Aside0.mk hS8; clear hS8))
                  go_meet
                  case rel =>
                    refine ⟨HS8.out.cast ?_⟩
                    unfold rSpan
                    rw [if_neg h1, if_neg hnn]
                    simp [mkS]
            -- 1>
          case rest => as_aux_lemma =>
            have HS6 := hcut
            clear HS5
            obtain ⟨l2, hl2⟩ : ∃ l2, l2 = rSpan xh.f (fromC xh.its) := ⟨_, rfl⟩
            have hl2b : l2.length ≤ 40 := by
              rw [hl2]
              exact rSpan_le (by omega) (by omega)
            rw [← hl2] at HS6
            have HL2 := Lib.hid hl2
            clear hl2 hcut
            go_upto_if 96 with fail
            go_cut [] (fun wx => Aside0 (SW W1 (W.heap.size + 1) (l ++ [64, 64] ++ ([32, 45] ++ l2) ++ ([32, 43] ++ rSpan xh.t (toC xh.its))) wx))
            case first => as_aux_lemma =>
              -- <2
              obtain ⟨cb0, cb1, cb2⟩ := HCELL.out wc HS6.out.bl
              have hdf : (Go.Lib.decDigits xh.t).length ≤ 18 := dec_length (by decide) (by omega)
              have s1 : (mkS (Go.Lib.decDigits xh.t)).size ≤ 18 := by rw [mkS_size]; exact hdf
              have hdn : (Go.Lib.decDigits (toC xh.its)).length ≤ 18 := dec_length (by decide) (by omega)
              have s2 : (mkS (Go.Lib.decDigits (toC xh.its))).size ≤ 18 := by rw [mkS_size]; exact hdn
              by_cases h1 : 1 < toC xh.its
              · have b1 : (1 : Int) < (toC xh.its : Int) := by omega
                have b2 : decide ((1 : Int) < (toC xh.its : Int)) = true := decide_eq_true b1
                go_wp2_with (first
                  | (go_at_call 46; (with_reducible refine (HS6.out.itoa HT1.out xh.t (by omega)).mono ?_); rintro e w6 ⟨rfl, hS6, hz6⟩; have HS6 := Aside0.mk hS6; clear hS6)
                  | (go_at_call 46; (with_reducible refine (HS6.out.itoa HT1.out (toC xh.its) (by omega)).mono ?_); rintro e w7 ⟨rfl, hS7, hz7⟩; have HS7 := Aside0.mk hS7; clear hS7)
                  | (go_at_call 45; (with_reducible refine (HS7.out.write _ ?z1).mono ?_); (case z1 => rw [ByteArray.size_append, ByteArray.size_append, ByteArray.size_append, mkS_size, mkS_size]; simp only [List.length_append]; (show _ + 2 + (2 + _) + (2 + _ + 1 + _) ≤ _); omega); rintro e w8 ⟨rfl, hS8, _, hz8⟩; have HS8 := Aside0.mk hS8; clear hS8))
                go_meet
                case rel =>
                  refine ⟨HS8.out.cast ?_⟩
                  unfold rSpan
                  rw [if_pos h1]
                  simp [mkS]
              · by_cases h2 : toC xh.its = 0
                · have h3 : xh.t = 1 := good_to HGG.out h2
                  have b1 : ¬ ((1 : Int) < (toC xh.its : Int)) := by omega
                  have b2 : decide ((1 : Int) < (toC xh.its : Int)) = false := decide_eq_false b1
                  have b3 : ((xh.t : Int) == 1) = true := by simp; omega
                  have b4 : decide ((xh.t : Int) = 1) = true := decide_eq_true (by omega)
                  have b5 : ((toC xh.its : Int) == 0) = true := by simp; omega
                  have b6 : decide ((toC xh.its : Int) = 0) = true := decide_eq_true (by omega)
                  have H2 := Lib.hid h2
                  have H3 := Lib.hid h3
                  clear h2 h3
                  go_wp2_with (go_at_call 45; (with_reducible refine (HS6.out.write _ ?z1).mono ?_); (case z1 => simp only [List.length_append]; (show _ + 2 + (2 + _) + 5 ≤ _); omega); rintro e w8 ⟨rfl, hS8, _, hz8⟩; have HS8 := Aside0.mk hS8; clear hS8)
                  go_meet
                  case rel =>
                    refine ⟨HS8.out.cast ?_⟩
                    unfold rSpan
                    rw [if_neg h1, if_pos ⟨H3.out, H2.out⟩]
                    simp
                · have b1 : ¬ ((1 : Int) < (toC xh.its : Int)) := by omega
                  have b2 : decide ((1 : Int) < (toC xh.its : Int)) = false := decide_eq_false b1
                  have b5 : ((toC xh.its : Int) == 0) = false := by simp; omega
                  have b6 : decide ((toC xh.its : Int) = 0) = false := decide_eq_false (by omega)
                  have hnn : ¬ (xh.t = 1 ∧ toC xh.its = 0) := fun h => h2 h.2
                  by_cases h3 : xh.t = 1
                  · have b3 : ((xh.t : Int) == 1) = true := by simp; omega
                    have b4 : decide ((xh.t : Int) = 1) = true := decide_eq_true (by omega)
                    have H3 := Lib.hid h3
                    clear h3
                    go_wp2_with (first
                      | (go_at_call 46; (with_reducible refine (HS6.out.itoa HT1.out xh.t (by omega)).mono ?_); rintro e w6 ⟨rfl, hS6, hz6⟩; have HS6 := Aside0.mk hS6; clear hS6)
                      | (go_at_call 45; (with_reducible refine (HS6.out.write _ ?z1).mono ?_); (case z1 => rw [ByteArray.size_append, mkS_size]; simp only [List.length_append]; (show _ + 2 + (2 + _) + (2 + _) ≤ _); omega); rintro e w8 ⟨rfl, hS8, _, hz8⟩; have HS8 := Aside0.mk hS8; clear hS8))
                    go_meet
                    case rel =>
                      refine ⟨HS8.out.cast ?_⟩
                      unfold rSpan
                      rw [if_neg h1, if_neg hnn]
                      simp [mkS]
                  · have b3 : ((xh.t : Int) == 1) = false := by simp; omega
                    have b4 : decide ((xh.t : Int) = 1) = false := decide_eq_false (by omega)
                    go_wp2_with (first
                      | (go_at_call 46; (with_reducible refine (HS6.out.itoa HT1.out xh.t (by omega)).mono ?_); rintro e w6 ⟨rfl, hS6, hz6⟩; have HS6 := Aside0.mk hS6; clear hS6)
                      | (go_at_call 45; (with_reducible refine (HS6.out.write _ ?z1).mono ?_); (case z1 => rw [ByteArray.size_append, mkS_size]; simp only [List.length_append]; (show _ + 2 + (2 + _) + (2 + _) ≤ _); omega); rintro e w8 ⟨rfl, hS8, _, hz8⟩; have HS8 := Aside0.mk hS8; clear hS8))
                    go_meet
                    case rel =>
                      refine ⟨HS8.out.cast ?_⟩
                      unfold rSpan
                      rw [if_neg h1, if_neg hnn]
                      simp [mkS]
              -- 2>
            case rest => as_aux_lemma =>
              have HS8 := hcut
              clear HS6 hcut
              obtain ⟨l4, hl4⟩ : ∃ l4, l4 = l ++ rHead xh := ⟨_, rfl⟩
              have hr3 : (rSpan xh.t (toC xh.its)).length ≤ 40 := rSpan_le (by omega) (by omega)
              have h4b : l4.length ≤ 10000000001000 := by
                rw [hl4, List.length_append]
                unfold rHead
                rw [← HL2.out]
                simp only [List.length_append, List.length_cons, List.length_nil]
                omega
              have HL4 := Lib.hid hl4
              clear hl4
              go_wp2_with (go_at_call 45; (with_reducible refine (HS8.out.write _ ?z1).mono ?_); (case z1 => simp only [List.length_append]; (show _ + 2 + (2 + _) + (2 + _) + 4 ≤ _); omega); rintro e w5 ⟨rfl, hS5, _, hz5⟩; (have hS9 : SW W1 (W.heap.size + 1) l4 w5 := hS5.cast (by rw [HL4.out]; unfold rHead; rw [← HL2.out]; simp)); have HS9 := Aside0.mk hS9; obtain ⟨cc0, cc1, cc2⟩ := HCELL.out w5 hS9.bl; clear hS5 hS9)
              clear HS8
              have hri := rIts_take xh.its
              have hrl : (rIts xh.its).length ≤ (rHk xh).length := by unfold rHk; rw [List.length_append]; omega
              go_loopg [135] xh.its.length (fun gk v135 wx => ∃ j : Nat, v135 = .int .i64 (j : Int) ∧ j + gk = xh.its.length ∧ Aside0 (SW W1 (W.heap.size + 1) (l4 ++ rIts (xh.its.take j)) wx))
              case atStart => exact ⟨0, rfl, by omega, ⟨HS9.out.cast (by simp [rIts])⟩⟩
              case round => as_aux_lemma =>
                -- <3
                obtain ⟨j, rfl, hjk, HS10'⟩ := hrel
                by_cases hlt2 : j < xh.its.length
                · obtain ⟨ga, hga, d0, d1⟩ := HLINE.out wr HS10'.out.bl j hlt2
                  subst hga
                  have hk2 := (HGG.out.ln _ (List.getElem_mem hlt2)).2
                  obtain ⟨⟨kk, ll⟩, hkl⟩ : ∃ it, it = xh.its[j] := ⟨_, rfl⟩
                  rw [← hkl] at d0 d1 hk2
                  have HKL := Lib.hid hkl.symm
                  have hil := rIt_le hlt2
                  rw [← hkl] at hil
                  have hil2 : ll.length + 1 ≤ (rIts xh.its).length := by unfold rIt at hil; simp at hil; omega
                  have hri2 := hri j
                  have hl5 : (l4 ++ rIts (xh.its.take j)).length ≤ 30000000000000 := by rw [List.length_append]; omega
                  obtain ⟨be, hbe⟩ : ∃ b, b = decide (EndNl ll) := ⟨_, rfl⟩
                  have hsu := suffix_at ll (by omega)
                  rw [← hbe] at hsu
                  have HSU := Aside0.mk hsu
                  have HBE := Lib.hid hbe
                  have s3 : (mkS ll).size ≤ 10000000000000 := by rw [mkS_size]; omega
                  clear hsu hbe hkl hil hri2
                  dsimp only at d0 d1 hk2
                  match kk, hk2 with
                | 0, _ =>
                  have HS10 := Aside0.mk (HS10'.out.alloc (.cells #[.int .i64 0, .string (mkS ll)] 94))
                  cases be with
                  | true =>
                    go_wp2_with (first
                      | (go_at_call 45; (with_reducible refine (HS10.out.write _ ?z1).mono ?_); (case z1 => rw [ByteArray.size_append, mkS_size]; (show _ + (1 + _) ≤ _); omega); rintro e w6 ⟨rfl, hS6, hk6, hz6⟩; have d2 : w6.cell? ⟨wr.heap.size, 1, none⟩ = some (.string (mkS ll)) := (blk_cell (hk6 _ _ (new_obj wr _)) 1).trans rfl; have HS11 := Aside0.mk hS6; clear hS6 hk6)
                      | (go_at_call 47; (with_reducible refine (HSU.out _).mono ?_); rintro e w7 ⟨rfl, rfl⟩))
                    go_roundg (xh.its.length - j - 1)
                    case rel =>
                      refine ⟨j + 1, by go_num, by omega, ⟨HS11.out.cast ?_⟩⟩
                      rw [rIts_snoc hlt2, HKL.out]
                      unfold rIt
                      rw [if_pos (of_decide_eq_true HBE.out.symm)]
                      simp [mkS, sign]
                    case measure => omega
                  | false =>
                    go_wp2_with (first
                      | (go_at_call 45; (with_reducible refine (HS10.out.write _ ?z1).mono ?_); (case z1 => rw [ByteArray.size_append, mkS_size]; (show _ + (1 + _) ≤ _); omega); rintro e w6 ⟨rfl, hS6, hk6, hz6⟩; have d2 : w6.cell? ⟨wr.heap.size, 1, none⟩ = some (.string (mkS ll)) := (blk_cell (hk6 _ _ (new_obj wr _)) 1).trans rfl; have HS11 := Aside0.mk hS6; clear hS6 hk6)
                      | (go_at_call 47; (with_reducible refine (HSU.out _).mono ?_); rintro e w7 ⟨rfl, rfl⟩)
                      | (go_at_call 45; (with_reducible refine (HS11.out.write _ ?z1).mono ?_); (case z1 => rw [List.length_append, data_length, ByteArray.size_append, mkS_size]; (show _ + (1 + _) + 29 ≤ _); omega); rintro e w8 ⟨rfl, hS8, _, hz8⟩; have HS12 := Aside0.mk hS8; clear hS8))
                    go_roundg (xh.its.length - j - 1)
                    case rel =>
                      refine ⟨j + 1, by go_num, by omega, ⟨HS12.out.cast ?_⟩⟩
                      rw [rIts_snoc hlt2, HKL.out]
                      unfold rIt
                      rw [if_neg (of_decide_eq_false HBE.out.symm)]
                      simp [mkS, sign, noEnd]
                    case measure => omega
                | 1, _ =>
                  have HS10 := Aside0.mk (HS10'.out.alloc (.cells #[.int .i64 1, .string (mkS ll)] 94))
                  cases be with
                  | true =>
                    go_wp2_with (first
                      | (go_at_call 45; (with_reducible refine (HS10.out.write _ ?z1).mono ?_); (case z1 => rw [ByteArray.size_append, mkS_size]; (show _ + (1 + _) ≤ _); omega); rintro e w6 ⟨rfl, hS6, hk6, hz6⟩; have d2 : w6.cell? ⟨wr.heap.size, 1, none⟩ = some (.string (mkS ll)) := (blk_cell (hk6 _ _ (new_obj wr _)) 1).trans rfl; have HS11 := Aside0.mk hS6; clear hS6 hk6)
                      | (go_at_call 47; (with_reducible refine (HSU.out _).mono ?_); rintro e w7 ⟨rfl, rfl⟩))
                    go_roundg (xh.its.length - j - 1)
                    case rel =>
                      refine ⟨j + 1, by go_num, by omega, ⟨HS11.out.cast ?_⟩⟩
                      rw [rIts_snoc hlt2, HKL.out]
                      unfold rIt
                      rw [if_pos (of_decide_eq_true HBE.out.symm)]
                      simp [mkS, sign]
                    case measure => omega
                  | false =>
                    go_wp2_with (first
                      | (go_at_call 45; (with_reducible refine (HS10.out.write _ ?z1).mono ?_); (case z1 => rw [ByteArray.size_append, mkS_size]; (show _ + (1 + _) ≤ _); omega); rintro e w6 ⟨rfl, hS6, hk6, hz6⟩; have d2 : w6.cell? ⟨wr.heap.size, 1, none⟩ = some (.string (mkS ll)) := (blk_cell (hk6 _ _ (new_obj wr _)) 1).trans rfl; have HS11 := Aside0.mk hS6; clear hS6 hk6)
                      | (go_at_call 47; (with_reducible refine (HSU.out _).mono ?_); rintro e w7 ⟨rfl, rfl⟩)
                      | (go_at_call 45; (with_reducible refine (HS11.out.write _ ?z1).mono ?_); (case z1 => rw [List.length_append, data_length, ByteArray.size_append, mkS_size]; (show _ + (1 + _) + 29 ≤ _); omega); rintro e w8 ⟨rfl, hS8, _, hz8⟩; have HS12 := Aside0.mk hS8; clear hS8))
                    go_roundg (xh.its.length - j - 1)
                    case rel =>
                      refine ⟨j + 1, by go_num, by omega, ⟨HS12.out.cast ?_⟩⟩
                      rw [rIts_snoc hlt2, HKL.out]
                      unfold rIt
                      rw [if_neg (of_decide_eq_false HBE.out.symm)]
                      simp [mkS, sign, noEnd]
                    case measure => omega
                | 2, _ =>
                  have HS10 := Aside0.mk (HS10'.out.alloc (.cells #[.int .i64 2, .string (mkS ll)] 94))
                  cases be with
                  | true =>
                    go_wp2_with (first
                      | (go_at_call 45; (with_reducible refine (HS10.out.write _ ?z1).mono ?_); (case z1 => rw [ByteArray.size_append, mkS_size]; (show _ + (1 + _) ≤ _); omega); rintro e w6 ⟨rfl, hS6, hk6, hz6⟩; have d2 : w6.cell? ⟨wr.heap.size, 1, none⟩ = some (.string (mkS ll)) := (blk_cell (hk6 _ _ (new_obj wr _)) 1).trans rfl; have HS11 := Aside0.mk hS6; clear hS6 hk6)
                      | (go_at_call 47; (with_reducible refine (HSU.out _).mono ?_); rintro e w7 ⟨rfl, rfl⟩))
                    go_roundg (xh.its.length - j - 1)
                    case rel =>
                      refine ⟨j + 1, by go_num, by omega, ⟨HS11.out.cast ?_⟩⟩
                      rw [rIts_snoc hlt2, HKL.out]
                      unfold rIt
                      rw [if_pos (of_decide_eq_true HBE.out.symm)]
                      simp [mkS, sign]
                    case measure => omega
                  | false =>
                    go_wp2_with (first
                      | (go_at_call 45; (with_reducible refine (HS10.out.write _ ?z1).mono ?_); (case z1 => rw [ByteArray.size_append, mkS_size]; (show _ + (1 + _) ≤ _); omega); rintro e w6 ⟨rfl, hS6, hk6, hz6⟩; have d2 : w6.cell? ⟨wr.heap.size, 1, none⟩ = some (.string (mkS ll)) := (blk_cell (hk6 _ _ (new_obj wr _)) 1).trans rfl; have HS11 := Aside0.mk hS6; clear hS6 hk6)
                      | (go_at_call 47; (with_reducible refine (HSU.out _).mono ?_); rintro e w7 ⟨rfl, rfl⟩)
                      | (go_at_call 45; (with_reducible refine (HS11.out.write _ ?z1).mono ?_); (case z1 => rw [List.length_append, data_length, ByteArray.size_append, mkS_size]; (show _ + (1 + _) + 29 ≤ _); omega); rintro e w8 ⟨rfl, hS8, _, hz8⟩; have HS12 := Aside0.mk hS8; clear hS8))
                    go_roundg (xh.its.length - j - 1)
                    case rel =>
                      refine ⟨j + 1, by go_num, by omega, ⟨HS12.out.cast ?_⟩⟩
                      rw [rIts_snoc hlt2, HKL.out]
                      unfold rIt
                      rw [if_neg (of_decide_eq_false HBE.out.symm)]
                      simp [mkS, sign, noEnd]
                    case measure => omega
                · obtain rfl : j = xh.its.length := by omega
                  rw [List.take_length] at HS10'
                  go_wp2_with fail
                  go_roundg (hs.length - i - 1)
                  case rel =>
                    refine ⟨i + 1, by go_num, by omega, ⟨HS10'.out.cast ?_⟩⟩
                    rw [rHks_snoc hHi, HX.out, HL4.out, HLL.out]
                    unfold rHk
                    simp only [List.append_assoc]
                  case measure => omega
                -- 3>
    · obtain rfl : i = hs.length := by omega
      have hall : H.take hs.length = H := List.take_of_length_le (by rw [HHH.out, List.length_map]; exact Nat.le_refl _)
      rw [hall] at HS
      go_wp2_with (go_at_call 48; (with_reducible refine HS.out.string.mono ?_); rintro e w5 ⟨rfl, hb5⟩; have HB5 := Aside0.mk hb5; clear hb5)
      go_ret
      exact ⟨rfl, HB1.out.trans (HB5.out.mono (Nat.le_succ _))⟩
end Go.Proofs.YtonajgipkpnpoaaGreatDoor.Un
namespace Go.Uni
open Go.Lib
set_option linter.unusedVariables false
set_option linter.unusedSimpArgs false
def wt (L : List Bs) : Nat := (L.map fun l => l.length + 1).sum
def wtI (its : List It) : Nat := (its.map fun i => i.l.length + 1).sum
def wtH (H : List Hk) : Nat := (H.map fun h => wtI h.its).sum
theorem wt_append (a b : List Bs) : wt (a ++ b) = wt a + wt b := by simp [wt]
theorem wt_one (l : Bs) : wt [l] = l.length + 1 := by simp [wt]
theorem wt_cut (L : List Bs) {d e : Nat} (h : d ≤ e) : wt (L.take e) = wt (L.take d) + wt ((L.take e).drop d) := by
  rw [← wt_append]
  congr 1
  rw [show L.take d = (L.take e).take d by rw [List.take_take, Nat.min_eq_left h], List.take_append_drop]
theorem wt_succ {L : List Bs} {d : Nat} {l : Bs} (h : L[d]? = some l) : wt (L.take (d + 1)) = wt (L.take d) + (l.length + 1) := by
  have hd := (List.getElem?_eq_some_iff.1 h)
  rw [List.take_succ_eq_append_getElem hd.1, wt_append, hd.2, wt_one]
theorem wt_take_le (L : List Bs) (d : Nat) : wt (L.take d) ≤ wt L := by
  conv => rhs; rw [← List.take_append_drop d L]
  rw [wt_append]; omega
theorem wt_flat : ∀ L : List Bs, wt L = L.flatten.length + L.length
  | [] => rfl
  | l :: t => by
    have := wt_flat t
    simp only [wt, List.map_cons, List.sum_cons, List.flatten_cons, List.length_append, List.length_cons] at this ⊢
    omega
theorem run_wt {L : List Bs} : ∀ {its : List It} {d : Nat} {acc : List Bs} {D : Nat} {ACC : List Bs}, run L its d acc = some (D, ACC) → wtI its + wt (L.take d) + wt acc ≤ wt (L.take D) + wt ACC
  | [], d, acc, D, ACC, h => by
    injection h with h
    injection h with h1 h2
    subst h1 h2
    simp [wtI]
  | i :: t, d, acc, D, ACC, h => by
    have e0 : wtI (i :: t) = (i.l.length + 1) + wtI t := by simp [wtI]
    unfold run at h
    by_cases hk : i.k = 1
    · rw [if_pos hk] at h
      have := run_wt h
      rw [wt_append, wt_one] at this
      omega
    · rw [if_neg hk] at h
      by_cases hd : L[d]? = some i.l
      · rw [if_pos hd] at h
        have h1 := run_wt h
        have h2 := wt_succ hd
        split at h1
        · omega
        · rw [wt_append, wt_one] at h1; omega
      · rw [if_neg hd] at h; cases h
theorem runH_wt {L : List Bs} : ∀ {H : List Hk} {d : Nat} {acc : List Bs} {D : Nat} {ACC : List Bs}, runH L H d acc = some (D, ACC) → wtH H + wt (L.take d) + wt acc ≤ wt (L.take D) + wt ACC
  | [], d, acc, D, ACC, h => by
    injection h with h
    injection h with h1 h2
    subst h1 h2
    simp [wtH]
  | x :: t, d, acc, D, ACC, h => by
    have e0 : wtH (x :: t) = wtI x.its + wtH t := by simp [wtH]
    unfold runH at h
    split at h
    · rename_i hc
      obtain ⟨⟨d', acc'⟩, h1, h2⟩ := Option.bind_eq_some_iff.1 h
      have e1 := run_wt h1
      have e2 : wtH t + wt (L.take d') + wt acc' ≤ wt (L.take D) + wt ACC := runH_wt h2
      rw [wt_append] at e1
      have e3 := wt_cut L hc.1
      omega
    · cases h
theorem ended_ne : ∀ {L : List Bs}, Ended L → ∀ l ∈ L, l ≠ []
  | [], _, l, h => by cases h
  | [a], h, l, hl => by
    rw [List.mem_singleton.1 hl]; exact h
  | a :: b :: t, h, l, hl => by
    rcases List.mem_cons.1 hl with rfl | hl
    · exact endNl_ne h.1
    · exact ended_ne (L := b :: t) h.2 l hl
theorem len_flat : ∀ {L : List Bs}, (∀ l ∈ L, l ≠ []) → L.length ≤ L.flatten.length
  | [], _ => Nat.le_refl _
  | l :: t, h => by
    have h1 := len_flat (L := t) (fun x hx => h x (List.mem_cons_of_mem _ hx))
    have h2 := List.length_pos_iff.2 (h l (by simp))
    rw [List.flatten_cons, List.length_append, List.length_cons]; omega
theorem rIt_len (i : It) : (rIt i).length ≤ 30 * (i.l.length + 1) := by
  unfold rIt
  split
  · simp; omega
  · have : noEnd.length = 28 := rfl
    simp [this]; omega
theorem rIts_len : ∀ its : List It, (rIts its).length ≤ 30 * wtI its
  | [] => by simp [rIts]
  | i :: t => by
    have h1 := rIts_len t
    have h2 := rIt_len i
    have e1 : rIts (i :: t) = rIt i ++ rIts t := by simp [rIts]
    have e2 : wtI (i :: t) = (i.l.length + 1) + wtI t := by simp [wtI]
    rw [e1, e2, List.length_append]; omega
theorem wtI_len (its : List It) : its.length ≤ wtI its := by
  induction its with
  | nil => exact Nat.le_refl _
  | cons i t ih =>
    have e2 : wtI (i :: t) = (i.l.length + 1) + wtI t := by simp [wtI]
    rw [e2, List.length_cons]; omega
theorem fromC_le' (its : List It) : fromC its ≤ its.length := by unfold fromC; exact List.length_filter_le _ _
theorem toC_le' (its : List It) : toC its ≤ its.length := by unfold toC; exact List.length_filter_le _ _
theorem rHks_len {m : Nat} (hm : m ≤ 1000000000) : ∀ H : List Hk, (∀ h ∈ H, Good m h) → wtH H ≤ 1000000000 → (rHks H).length ≤ 100 * H.length + 30 * wtH H
  | [], _, _ => by simp [rHks]
  | h :: t, hg, hw => by
    have e1 : rHks (h :: t) = rHk h ++ rHks t := by simp [rHks]
    have e2 : wtH (h :: t) = wtI h.its + wtH t := by simp [wtH]
    have h1 := rHks_len hm t (fun x hx => hg x (List.mem_cons_of_mem _ hx)) (by omega)
    have h2 := rIts_len h.its
    have h3 := wtI_len h.its
    have g := hg h (by simp)
    have h4 := fromC_le' h.its
    have h5 := toC_le' h.its
    have h6 := Go.Proofs.YtonajgipkpnpoaaGreatDoor.Un.rSpan_le (f := h.f) (n := fromC h.its) (by have := g.fm; omega) (by omega)
    have h7 := Go.Proofs.YtonajgipkpnpoaaGreatDoor.Un.rSpan_le (f := h.t) (n := toC h.its) (by have := g.tm; omega) (by omega)
    rw [e1, e2, List.length_append, List.length_cons]
    unfold rHk rHead
    simp only [List.length_append, List.length_cons, List.length_nil]
    omega
theorem app_len_in {c : Bs} : ∀ (es : List BE) (p : Nat), InO c.length es p → (app c es p).length + p ≤ c.length + tot es
  | [], p, h => by
    have : p ≤ c.length := h
    simp [app, tot]; omega
  | e :: t, p, ⟨h1, h2, h3, h4⟩ => by
    have h := app_len_in (c := c) t e.e h4
    have e1 : tot (e :: t) = e.new.length + tot t := by simp [tot]
    show ((c.take e.s).drop p ++ e.new ++ app c t e.e).length + p ≤ _
    rw [List.length_append, List.length_append, e1]
    have : ((c.take e.s).drop p).length = e.s - p := by simp; omega
    omega
theorem al_inO {c : Bs} : ∀ (es : List BE) (p : Nat), Al c es p → InO c.length es p
  | [], p, h => h
  | e :: t, p, ⟨h1, h2, h3, _, _, _, h7⟩ => ⟨h1, h2, h3, al_inO t e.e h7⟩
structure Tells (c : Bs) (H : List Hk) (out : Bs) : Prop where
  ne : H ≠ []
  good : ∀ h ∈ H, Good 4000000 h
  its : ∀ h ∈ H, h.its.length ≤ 1000000000
  len : H.length ≤ 1000000
  size : (rHks H).length ≤ 1000000000
  ol : out.length ≤ 4000000
  run : ∃ D ACC, runH (splitL c) H 0 [] = some (D, ACC) ∧ D ≤ (splitL c).length ∧ Ended (ACC ++ (splitL c).drop D) ∧ (ACC ++ (splitL c).drop D).flatten = out
theorem fin_len {ctx : Nat} {L : List Bs} {st : St} : (fin ctx L st).length ≤ st.H.length + 1 := by
  unfold fin
  split
  · simp
  · omega
theorem stAt_H1 {ctx : Nat} {c : Bs} {ys : List BE} : ∀ {i : Nat}, 0 < i → i ≤ ys.length → (stAt ctx c ys i).H.length + 1 ≤ i
  | 1, _, h => by
    rw [stAt_succ ctx c ys 0 (ys[0]'(by omega)) (List.getElem?_eq_getElem _), stAt_zero]
    exact Nat.le_refl _
  | i + 2, _, h => by
    rw [stAt_succ ctx c ys (i + 1) (ys[i + 1]'(by omega)) (List.getElem?_eq_getElem _)]
    have h1 := stAt_H1 (ctx := ctx) (c := c) (ys := ys) (i := i + 1) (by omega) (by omega)
    have h2 := pre_H (ctx := ctx) (L := splitL c) (st := stAt ctx c ys (i + 1)) (a := (toLE c (ys[i + 1]'(by omega))).a)
    show (pre ctx (splitL c) (stAt ctx c ys (i + 1)) _).1.length + 1 ≤ _
    omega
theorem tells_of {ctx : Nat} (hc : 1 ≤ ctx) {c : Bs} {ys : List BE} (hne : ys ≠ []) (ha : Al c ys 0) (hcl : c.length ≤ 1000000) (ht : tot ys ≤ 2000000) (hl : ys.length ≤ 1000000) : Tells c (fin ctx (splitL c) (stAt ctx c ys ys.length)) (app c ys 0) := by
  obtain ⟨H, h1, h2, h3, D, ACC, h4, h5, h6, h7⟩ := hunks_tell hc c ys hne ha
  rw [stAt_all, ← h1]
  have e1 := splitL_length_le c
  have e2 := insN_le c ys
  have e3 := runH_wt h4
  have e4 := app_len_in ys 0 (al_inO ys 0 ha)
  have e5 := wt_take_le (splitL c) D
  have e6 := wt_flat (splitL c)
  rw [flatten_splitL] at e6
  have e7 := wt_flat ACC
  have hne' := ended_ne h6
  have e8 := len_flat (L := ACC) (fun l hl => hne' l (by simp [hl]))
  have e9 : ACC.flatten.length ≤ (app c ys 0).length := by
    rw [← h7, List.flatten_append, List.length_append]; omega
  have e10 : wt (List.take 0 (splitL c)) = 0 := rfl
  have e11 : wt [] = 0 := rfl
  have e12 : H.length ≤ ys.length := by
    rw [h1, ← stAt_all]
    exact Nat.le_trans fin_len (stAt_H1 (List.length_pos_iff.2 hne) (Nat.le_refl _))
  have hg : ∀ h ∈ H, Good 4000000 h := fun h hh => (h3 h hh).mono (by omega)
  have hw : wtH H ≤ 10000000 := by omega
  have e13 := rHks_len (m := 4000000) (by omega) H hg (by omega)
  refine ⟨h2, hg, fun h hh => ?_, by omega, by omega, by omega, D, ACC, h4, h5, h6, h7⟩
  have h8 := wtI_len h.its
  have h9 : wtI h.its ≤ wtH H := by
    obtain ⟨i, hi, rfl⟩ := List.mem_iff_getElem.1 hh
    unfold wtH
    exact List.single_le_sum' _ _ (List.mem_map.2 ⟨_, List.getElem_mem hi, rfl⟩)
  omega
where List.single_le_sum' : ∀ (l : List Nat) (x : Nat), x ∈ l → x ≤ l.sum
  | a :: t, x, h => by
    rw [List.sum_cons]
    rcases List.mem_cons.1 h with rfl | h
    · omega
    · have := List.single_le_sum' t x h; omega
end Go.Uni
namespace Go.Proofs.YtonajgipkpnpoaaGreatDoor.Un
open Go.RowKit Go.Sort Go.Sst Go.Proofs.YtonajgipkpnpoaaGreatDoorW.PrintWords Go.Proofs.YtonajgipkpnpoaaGreatDoorW.PrintLast Go.Proofs.YtonajgipkpnpoaaGreatDoorW.PrintMore Go.Uni
open Go.Proofs.YtonajgipkpnpoaaGreatDoor.SortM Go.Proofs.YtonajgipkpnpoaaGreatDoor.SortS Go.Proofs.YtonajgipkpnpoaaGreatDoor.SortU
set_option linter.unusedVariables false
set_option linter.unusedSimpArgs false
structure Eds (c : ByteArray) (es ys : List BE) : Prop where
  c6 : c.size ≤ 1000000
  len : ys.length = es.length
  l6 : es.length ≤ 1000000
  tot : Go.Uni.tot ys ≤ 1000000
  near : ∀ y ∈ es, y.s ≤ 1000000 ∧ y.e ≤ 1000000
  sort : sortE (es.map bE) = ys.map bE
  io : InO c.data.toList.length ys 0
def formU (fa fb : ByteArray) (c : Bs) (ctx : Nat) (es : List BE) (U : ByteArray) : Prop :=
  (es = [] ∧ U = ⟨#[]⟩) ∨ ∃ ys, es ≠ [] ∧ LineEd c es ys ∧ U = mkS (rNames fa.data.toList fb.data.toList ++ rHks (fin ctx (splitL c) (stAt ctx c ys ys.length)))
def ToPost (W : World) (fa fb : ByteArray) (c : Bs) (ctx : Nat) (es : List BE) (r : Value) (e : Ending) (w' : World) : Prop :=
  ∃ U, e = .returned (.tuple #[.string U, r]) ∧ formU fa fb c ctx es U ∧ Below W.heap.size W w'
theorem lineEd_tells {c : Bs} {es ys : List BE} {ctx : Nat} (hctx : 1 ≤ ctx) (hL : LineEd c es ys) (hio : InO c.length es 0) (hne : es ≠ []) (hc : c.length ≤ 1000000) (ht : tot es ≤ 1000000) (hl : es.length ≤ 1000000) : Tells c (fin ctx (splitL c) (stAt ctx c ys ys.length)) (app c es 0) := by
  obtain ⟨h1, h2, h3, h4⟩ := lineEd_ok hL hio
  rw [← h2]
  exact tells_of hctx (h4 hne) h1 hc (by omega) (by have := lineEd_len hL; omega)
set_option maxRecDepth 100000 in
theorem toUnified_none (W : World) (fa fb c : ByteArray) (A : Option Addr) (cap : Nat) (ctx : Nat) (hctx2 : ctx ≤ 8) :
    Calls Tryz.prog 31 #[(.string fa), (.string fb), .string c, .slice A 0 cap, .int .i64 ctx] W fun e w' => e = .returned (.tuple #[.agg #[.string fa, .string fb, .slice none 0 0], .nilIface]) ∧ Below W.heap.size W w' := by
  go_enter Tryz.func31, Tryz.ntmps31
  go_wp2_with fail
  refine bodyPost_ret (results_two rfl _ _ W.heap.size 62 #[.string fa, .string fb, .slice none 0 0] (0, 0) _ .nilIface rfl rfl (two_heap W (.cells #[.string fa, .string fb, .slice none 0 0] 62) (.cells #[.string fa, .string fb, .slice none 0 0] 62)).1 Tryz.underlying62 rfl (by kernel_rfl)) rfl ?_
  exact ⟨rfl, (two_heap W _ _).2.2⟩
set_option maxRecDepth 100000 in
theorem toU_calls (W : World) (fa fb c : ByteArray) (A : Option Addr) (cap : Nat) (es ys : List BE) (ctx : Nat) (hctx : 1 ≤ ctx) (hctx2 : ctx ≤ 8) (h : Eds c es ys) (hfa : fa.size ≤ 1000000) (hfb : fb.size ≤ 1000000) (ht : Tab W) (hown : W.ownsRow 0 68 3 (.slice A es.length cap) es.length (rowE es)) :
    Calls Tryz.prog 23 #[(.string fa), (.string fb), .string c, .slice A es.length cap, .int .i64 ctx] W fun e w' => ToPost W fa fb c.data.toList ctx ys .nilIface e w' := by
  by_cases h0 : es.length = 0
  · have hy0 : ys = [] := List.eq_nil_of_length_eq_zero (by rw [h.len]; exact h0)
    have hn := toUnified_none W fa fb c A cap ctx hctx2
    rw [h0]
    have HY := Lib.hid hy0
    clear hy0 h hown h0
    go_enter Tryz.func23, Tryz.ntmps23
    go_wp2_with (first
      | (go_at_call 31; (with_reducible refine hn.mono ?_); rintro e w1 ⟨rfl, hb1⟩; have HB1 := Aside0.mk hb1; clear hb1)
      | (go_at_call 32; (with_reducible refine (string_none _ fa fb).mono ?_); rintro e w2 ⟨rfl, hb2⟩; have HB2 := Aside0.mk hb2; clear hb2))
    go_ret2
    exact ⟨_, rfl, Or.inl ⟨HY.out, rfl⟩, (below_alloc HB1.out _).trans (HB2.out.mono (by have := HB1.out.size; simp; omega))⟩
  · have hyl : ys.length ≤ 1000000 := by rw [h.len]; exact h.l6
    have hyne : ys ≠ [] := by intro e; rw [e] at h; exact h0 (by have := h.len; simpa using this.symm)
    have hcl : c.data.toList.length ≤ 1000000 := by rw [data_length]; exact h.c6
    have hle : ∀ W1, Below W.heap.size W W1 → Calls Tryz.prog 42 #[.string c, .slice A es.length cap] W1 fun e w' => LePost W1 c.data.toList ys e w' := fun W1 hb =>
      lineEdits_calls W1 c A es.length cap es ys h.c6 rfl h.len (by omega) h.l6 h.tot h.near (pw_own_below hown hb) h.sort h.io
    have htu := toUnified_calls W fa fb c (.slice A es.length cap) es.length ys ctx h.c6 h.tot hyl hctx hctx2 A cap rfl h0 hyne h.io hle
    have htl : ∀ ys', LineEd c.data.toList ys ys' → Tells c.data.toList (fin ctx (splitL c.data.toList) (stAt ctx c.data.toList ys' ys'.length)) (app c.data.toList ys 0) := fun ys' hL => lineEd_tells hctx hL h.io hyne hcl h.tot hyl
    have HTL := Aside0.mk htl
    have HT := Aside0.mk ht
    have HNE := Aside0.mk hyne
    have hfa2 : fa.data.toList.length ≤ 1000000 := by rw [data_length]; exact hfa
    have hfb2 : fb.data.toList.length ≤ 1000000 := by rw [data_length]; exact hfb
    clear htl hle h ht hown h0 hyne
    go_enter Tryz.func23, Tryz.ntmps23
    go_upto_region 4 with (go_at_call 31; (with_reducible refine htu.mono ?_); rintro e w1 ⟨vh, hs, ys', rfl, hL, hrow, hh, hfin, hb1⟩; obtain ⟨AH, cH, rfl⟩ := own_slice hrow; have HL := Aside0.mk hL; have HROW := Aside0.mk hrow; have HH := Aside0.mk hh; have HFIN := Lib.hid hfin; have HB1 := Aside0.mk hb1; clear hL hrow hh hfin hb1)
    have htl := HTL.out ys' HL.out
    have hHs := HFIN.out
    have hlen : hs.length = (fin ctx (splitL c.data.toList) (stAt ctx c.data.toList ys' ys'.length)).length := by rw [← hHs, List.length_map]
    have hsne : hs ≠ [] := by
      intro e
      apply htl.ne
      rw [← hHs, e]; rfl
    have hst : ∀ o, Calls Tryz.prog 32 #[.agg #[.string fa, .string fb, .slice AH hs.length cH]] (w1.alloc o) fun e w' => e = .returned (.string (mkS (rNames fa.data.toList fb.data.toList ++ rHks (fin ctx (splitL c.data.toList) (stAt ctx c.data.toList ys' ys'.length))))) ∧ Below (w1.alloc o).heap.size (w1.alloc o) w' := fun o => by
      have hk := string_calls (w1.alloc o) fa fb (.slice AH hs.length cH) hs W.heap.size 4000000 hsne (own_alloc HROW.out o) (fun x hx => (HH.out x hx).fr (Fr.alloc_ w1 o (fun _ => False)) (fun x => x) (fun _ _ x => x)) (fun x hx => htl.good _ (by rw [← hHs]; exact List.mem_map.2 ⟨x, hx, rfl⟩)) (by omega) (HT.out.stay (below_alloc HB1.out o) (Nat.le_refl _)) (by
        rw [hHs, List.length_append]
        have h1 := htl.size
        have h2 : (rNames fa.data.toList fb.data.toList).length = fa.data.toList.length + fb.data.toList.length + 10 := by unfold rNames; simp only [List.length_append, List.length_cons, List.length_nil]; omega
        omega) (by rw [hlen]; have := htl.len; omega)
      rw [hHs] at hk
      exact hk
    have HST := Aside0.mk hst
    obtain ⟨Ub, hUb⟩ : ∃ Ub, Ub = mkS (rNames fa.data.toList fb.data.toList ++ rHks (fin ctx (splitL c.data.toList) (stAt ctx c.data.toList ys' ys'.length))) := ⟨_, rfl⟩
    rw [← hUb] at HST
    have HUB := Lib.hid hUb
    clear hst htl hHs hlen hsne hUb
    go_wp2_with (go_at_call 32; go_loud ((with_reducible refine (HST.out _).mono ?_); rintro e w2 ⟨rfl, hb2⟩; have HB2 := Aside0.mk hb2; clear hb2))
    go_ret2
    exact ⟨_, rfl, Or.inr ⟨ys', HNE.out, HL.out, HUB.out⟩, (below_alloc HB1.out _).trans (HB2.out.mono (by have := HB1.out.size; simp; omega))⟩
end Go.Proofs.YtonajgipkpnpoaaGreatDoor.Un
