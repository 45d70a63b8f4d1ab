/- ReadUnified: a unified form is read back. ReadUnified of nothing. -/
import Derived.Test.YtonajgipkpnpoaaGreatDoorC28
import Derived.Test.YtonajgipkpnpoaaGreatDoorC21
import Derived.WalkSpells
import Derived.Deep.RegionWith
namespace Go.Proofs.YtonajgipkpnpoaaGreatDoor.Un
open Go.RowKit Go.Proofs.YtonajgipkpnpoaaGreatDoorW.PrintWords Go.Proofs.YtonajgipkpnpoaaGreatDoorW.PrintLast Go.Proofs.YtonajgipkpnpoaaGreatDoorW.PrintMore Go.Uni
open Go.Proofs.YtonajgipkpnpoaaGreatDoor.Rd (Pin IsS43)
set_option linter.unusedVariables false
set_option linter.unusedSimpArgs false
structure HB where
  f : Int
  t : Int
  h : Hk
def hbB (x : HB) : List Value := (hkB ⟨x.f, x.t, x.h.its⟩ (ht x.h.its (0, 0, false)).1 (ht x.h.its (0, 0, false)).2.1).toList
def rowH (L : List HB) : List Value := L.flatMap hbB
theorem rowH_append (a b : List HB) : rowH (a ++ b) = rowH a ++ rowH b := by simp [rowH]
def ReadPost (W : World) (out : ByteArray) (H : List Hk) (e : Ending) (w' : World) : Prop :=
  ∃ (v : Value) (L : List HB), e = .returned (.tuple #[.string out, v, .bool true]) ∧ L.map (·.h) = H ∧ (∀ x ∈ L, x.f = (if fromC x.h.its = 0 then 0 else (x.h.f : Int))) ∧ w'.ownsRow W.heap.size 46 6 v L.length (rowH L) ∧ Below W.heap.size W w'
theorem info_hunk : (Tryz.prog.info? 46).map (fun i => (i.zero, i.size, i.bytes)) = some (some (.agg #[.int .i64 0, .int .i64 0, .int .i64 0, .int .i64 0, .int .i64 0, .int .i64 0]), 6, 48) := by kernel_rfl
theorem own_lower' {w : World} {base base' : Nat} {e : TypeId} {size n : Nat} {v : Value} {xs : List Value} (h : w.ownsRow base e size v n xs) (hb : base' ≤ base) : w.ownsRow base' e size v n xs := by
  refine ⟨h.1, h.2.imp id ?_⟩
  rintro ⟨g, cap, cur, h1, h2, h3⟩
  exact ⟨g, cap, cur, h1, Nat.le_trans hb h2, h3⟩
theorem rHk_ne (h : Hk) : rHk h ≠ [] := by unfold rHk rHead; simp
theorem rHks_cons (h : Hk) (t : List Hk) : rHks (h :: t) = rHk h ++ rHks t := by simp [rHks]
theorem rHks_head (H : List Hk) : ∀ c t, rHks H = c :: t → c ≠ 92 := by
  intro c t he
  cases H with
  | nil => simp [rHks] at he
  | cons h s =>
    rw [rHks_cons] at he
    unfold rHk rHead at he
    simp at he
    rw [← he.1]; decide
theorem rHks_pos {H : List Hk} (h : H ≠ []) : rHks H ≠ [] := by
  cases H with
  | nil => exact absurd rfl h
  | cons x t => rw [rHks_cons]; intro e; exact rHk_ne x (List.append_eq_nil_iff.1 e).1
theorem runH_len {L : List Bs} : ∀ {H : List Hk} {d : Nat} {acc : List Bs} {D : Nat} {ACC : List Bs}, runH L H d acc = some (D, ACC) → acc.length ≤ ACC.length
  | [], d, acc, D, ACC, h => by
    injection h with h
    injection h with h1 h2
    rw [h2]; exact Nat.le_refl _
  | x :: t, d, acc, D, ACC, h => by
    unfold runH at h
    split at h
    · obtain ⟨⟨d', acc'⟩, h1, h2⟩ := Option.bind_eq_some_iff.1 h
      have e1 := run_len h1
      have e2 : acc'.length ≤ ACC.length := runH_len h2
      rw [List.length_append] at e1
      omega
    · cases h
theorem RS.fr {w0 wr w' : World} {g : Nat} {U : ByteArray} {o y : Pin} {p d : Nat} {acc : List Bs} (h : RS w0 wr g U o p d acc y) {S : Nat → Prop} (hf : Fr wr w' S) (hS : ∀ x, S x → w0.heap.size ≤ x ∧ x ≠ g ∧ (pv y).ownBlock ≠ some x) : RS w0 w' g U o p d acc y := by
  obtain ⟨hb, hg⟩ := h.blk
  exact RS.mk' (hf.heap hb (fun x => (hS _ x).2.1 rfl)) hg (h.bl.trans (hf.below h.bl.size (fun x hx => (hS x hx).1))) h.yn (own_fr h.out hf (fun b hb' hs => (hS b hs).2.2 hb'))
theorem own_ge {w : World} {base : Nat} {e : TypeId} {size n : Nat} {v : Value} {xs : List Value} (h : w.ownsRow base e size v n xs) : ∀ k, v.ownBlock = some k → base ≤ k := by
  intro k hk
  rcases h.2 with ⟨rfl, _⟩ | ⟨b, cap, cur, rfl, hb, _⟩
  · simp [Value.ownBlock] at hk
  · simp only [Value.ownBlock, Option.some.injEq] at hk
    omega
theorem flat_take_succ {L : List Bs} {k : Nat} (h : k < L.length) : (L.take (k + 1)).flatten = (L.take k).flatten ++ L[k] := by
  rw [List.take_succ_eq_append_getElem h, List.flatten_append]; simp
theorem take_len_le {L : List Bs} (k : Nat) : (L.take k).flatten.length ≤ L.flatten.length := by
  conv => rhs; rw [← List.take_append_drop k L]
  rw [List.flatten_append, List.length_append]; omega
theorem get_len_le {L : List Bs} {k : Nat} (h : k < L.length) : (L[k]).length ≤ L.flatten.length := by
  have h1 := flat_take_succ h
  have h2 := take_len_le (L := L) (k + 1)
  rw [h1, List.length_append] at h2; omega
theorem ended_take {L : List Bs} (h : Ended L) {k : Nat} (hk : k < L.length) (h0 : 0 < k) : EndNl (L.take k).flatten := by
  have h1 : Ended (L.take k ++ L.drop k) := by rw [List.take_append_drop]; exact h
  have h2 := ended_left h1 (by intro e; have := congrArg List.length e; simp at this; omega)
  rcases flatten_endNl h2 with e | e
  · exfalso
    have hm : L[0]'(by omega) ∈ L.take k := by rw [List.mem_take_iff_getElem]; exact ⟨0, by omega, rfl⟩
    have := endNl_ne (h2 _ hm)
    have h4 : ∀ x ∈ L.take k, x = [] := List.flatten_eq_nil_iff.1 e
    exact this (h4 _ hm)
  · exact e
theorem last_end {s : ByteArray} {l : Bs} (hs : s = mkS l) (h : EndNl l) : 0 < s.size ∧ ∀ hh : s.size - 1 < s.size, (((s[s.size - 1]'hh).toNat : Int) != 10) = false := by
  have hl : 0 < s.size := by
    rw [hs, mkS_size]
    exact List.length_pos_iff.2 (endNl_ne h)
  refine ⟨hl, fun hh => ?_⟩
  rw [last_nl s hl hh]
  have : s.data.toList.take s.size = l := by
    rw [List.take_of_length_le (by rw [data_length]; exact Nat.le_refl _), hs, mkS_toList]
  rw [this]
  exact decide_eq_false (not_not_intro (Or.inr h))
def HunkPost2 (w0 W : World) (g : Nat) (U : ByteArray) (o y0 : Pin) (p D : Nat) (ACC : List Bs) (h : Hk) (e : Ending) (w' : World) : Prop :=
  ∃ (f t fc tc a b : Int) (y : Pin), e = .returned (.agg #[.int .i64 f, .int .i64 fc, .int .i64 t, .int .i64 tc, .int .i64 a, .int .i64 b]) ∧ Hid (hbB ⟨f, t, h⟩ = [.int .i64 f, .int .i64 fc, .int .i64 t, .int .i64 tc, .int .i64 a, .int .i64 b]) ∧ Hid (f = (if fromC h.its = 0 then 0 else (h.f : Int))) ∧ Aside0 (Ho w0 W w' g U o y0 y p D ACC)
theorem HunkPost.two {w0 W : World} {g : Nat} {U : ByteArray} {o y0 : Pin} {p D : Nat} {ACC : List Bs} {h : Hk} {e : Ending} {w' : World} (k : HunkPost w0 W g U o y0 p D ACC h e w') : HunkPost2 w0 W g U o y0 p D ACC h e w' := by
  obtain ⟨f, t, y, h1, h2, h3⟩ := k
  exact ⟨f, t, _, _, _, _, y, h1, Lib.hid rfl, Lib.hid h2, ⟨h3⟩⟩
set_option maxRecDepth 100000 in
set_option maxHeartbeats 8000000 in
theorem read_calls (W : World) (U a b old : ByteArray) (H : List Hk) (D m : Nat) (ACC : List Bs) (hUe : U.data.toList = rNames a.data.toList b.data.toList ++ rHks H) (hU : U.size ≤ 1000000000000000) (ha : a.size ≤ 1000000000000) (hb : b.size ≤ 1000000000000) (hold : old.size ≤ 100000000)
    (hH : H ≠ []) (hg : ∀ h ∈ H, Uni.Good m h) (hm : m ≤ 100000000) (hits : ∀ h ∈ H, h.its.length ≤ 1000000000) (hrun : runH (splitL old.data.toList) H 0 [] = some (D, ACC)) (hD : D ≤ (splitL old.data.toList).length) (hend : Ended (ACC ++ (splitL old.data.toList).drop D)) (hacc : ACC.length ≤ 1000000000) (hHl : H.length ≤ 1000000000) (hfl : (ACC ++ (splitL old.data.toList).drop D).flatten.length ≤ 1000000000000000) :
    Calls Tryz.prog 8 #[.string U, .string a, .string b, .string old] W fun e w' => ReadPost W (mkS (ACC ++ (splitL old.data.toList).drop D).flatten) H e w' := by
  have hUne : U.data.toList ≠ [] := by rw [hUe]; unfold rNames; simp
  have hUn : U.toList.isEmpty = false := by
    rw [toList_data]
    cases hx : U.data.toList with
    | nil => exact absurd hx hUne
    | cons c t => rfl
  have hlo := linesOf_ev old (by omega) (old.size + 1) (by omega)
  have HLO := Aside0.mk hlo
  obtain ⟨L, hL⟩ : ∃ L, L = splitL old.data.toList := ⟨_, rfl⟩
  rw [← hL] at HLO hrun hD hend hfl ⊢
  have hLn : L.length ≤ 100000000 := by have := splitL_length_le old.data.toList; rw [data_length, ← hL] at this; omega
  have HUE := Aside0.mk hUe
  have HRUN := Aside0.mk hrun
  have HEND := Aside0.mk hend
  clear hlo hL hUe hrun hend hUne
  go_enter Tryz.func8, Tryz.ntmps8
  go_upto_region 4 with (go_at_call 12; (with_reducible refine (PLnN.spec_LinesOf.calls _ _ _ _ HLO.out).mono ?_); rintro e w0 ⟨v0, rfl, hR, hb0⟩; have ho0 := own_of_R hR; obtain ⟨oA, oc, rfl⟩ := own_slice ho0; have HB0 := Aside0.mk hb0; have HO0 := Aside0.mk ho0; clear hR hb0 ho0)
  have hnew := new_obj w0 (.cells #[.string U, .int .i64 ((0 : Nat) : Int), .bool false, .slice oA L.length oc, .int .i64 ((0 : Nat) : Int), .slice none 0 0] 43)
  have hrs : RS w0 (w0.alloc (.cells #[.string U, .int .i64 ((0 : Nat) : Int), .bool false, .slice oA L.length oc, .int .i64 ((0 : Nat) : Int), .slice none 0 0] 43)) w0.heap.size U ⟨oA, L.length, oc⟩ 0 0 [] ⟨none, 0, 0⟩ :=
    RS.mk' hnew (Nat.le_refl _) (below_alloc (Below.refl _ _) _) rfl (own_nil _ _ _ _)
  have hs0 := HB0.out.size
  have hst : U.data.toList.drop 0 = ((⟨#[45, 45, 45, 32]⟩ ++ a ++ ⟨#[10, 43, 43, 43, 32]⟩ ++ b ++ ⟨#[10]⟩ : ByteArray)).data.toList ++ rHks H := by
    rw [List.drop_zero, HUE.out]; unfold rNames; simp
  obtain ⟨sT, hsT⟩ : ∃ sT : ByteArray, sT = (⟨#[45, 45, 45, 32]⟩ ++ a ++ ⟨#[10, 43, 43, 43, 32]⟩ ++ b ++ ⟨#[10]⟩ : ByteArray) := ⟨_, rfl⟩
  rw [← hsT] at hst
  have hsz : 0 < sT.size := by rw [hsT, ByteArray.size_append]; have : (⟨#[10]⟩ : ByteArray).size = 1 := rfl; omega
  have htk := Rd.take_ev U 0 ⟨oA, L.length, oc⟩ ⟨none, 0, 0⟩ 0 sT _ hU hst hsz
  have hdr0 : U.data.toList.drop (0 + sT.size) = rHks H := by
    have := Rd.drop_more hst
    rwa [data_length] at this
  have HTK := Aside0.mk htk
  have HST := Lib.hid hsT
  have HRS := Aside0.mk hrs
  have HDR := Aside0.mk hdr0
  clear htk hsT hrs hdr0 hst hnew
  have z1 : (⟨#[45, 45, 45, 32]⟩ : ByteArray).size = 4 := rfl
  have z2 : (⟨#[10, 43, 43, 43, 32]⟩ : ByteArray).size = 5 := rfl
  have z3 : (⟨#[10]⟩ : ByteArray).size = 1 := rfl
  go_upto_region 5 with (go_at_call 19; rw [← HST.out]; (with_reducible refine (Rd.spec_reader_take.calls _ _ _ _ _ _ _ _ _ _ _ _ w0 _ ?side1 ?side2 HTK.out).mono ?_); (case side1 => exact HRS.out.is); (case side2 => exact HRS.out.bl); rintro e w5 ⟨rfl, hi5, hb5, hk5⟩; have HR5 := Aside0.mk (HRS.out.call hi5 hb5 hk5).1; clear hi5 hb5 hk5)
  go_wp2_with fail
  go_loopg [12] H.length (fun gk v12 wr => ∃ (rem : List Hk) (Ls : List HB) (y : Pin) (p d : Nat) (acc : List Bs), Ls.map (·.h) ++ rem = H ∧ gk = rem.length ∧ (∀ x ∈ Ls, x.f = (if fromC x.h.its = 0 then 0 else (x.h.f : Int))) ∧ Hid (runH L rem d acc = some (D, ACC)) ∧ Hid (U.data.toList.drop p = rHks rem) ∧ p ≤ U.size ∧ Aside0 (RS w0 wr w0.heap.size U ⟨oA, L.length, oc⟩ p d acc y) ∧ Aside0 (wr.ownsRow w0.heap.size 46 6 v12 Ls.length (rowH Ls)))
  case atStart =>
    refine ⟨H, [], ⟨none, 0, 0⟩, 0 + sT.size, 0, [], rfl, rfl, fun x hx => (by cases hx), Lib.hid HRUN.out, Lib.hid HDR.out, ?_, ⟨?_⟩, ⟨?_⟩⟩
    · exact drop_le HDR.out (rHks_pos hH)
    · have hf := Fr.alloc_ w5 (.cells #[] 46) (fun _ => False)
      obtain ⟨hb, hg⟩ := HR5.out.blk
      exact RS.mk' (hf.heap hb (fun x => x)) hg (HR5.out.bl.trans (hf.below HR5.out.bl.size (fun _ x => x.elim))) HR5.out.yn (own_fr HR5.out.out hf (fun _ _ x => x))
    · have h5 := HR5.out.bl.size
      exact World.ownsRow_lit w5 #[] 0 (by omega) (by decide) rfl
  case round =>
    obtain ⟨rem, Ls, y, p, d, acc, hHs, rfl, hfs, HRN, HDP, hp, HRS1, HRW⟩ := hrel
    have cg := HRS1.out.blk.1
    have c1 : wr.cell? ⟨w0.heap.size, 1, none⟩ = some (.int .i64 (p : Int)) := blk_cell cg 1
    have c2 : wr.cell? ⟨w0.heap.size, 2, none⟩ = some (.bool false) := blk_cell cg 2
    obtain ⟨hA, hc, rfl⟩ := own_slice HRW.out
    have hLl : Ls.length + rem.length = H.length := by rw [← hHs]; simp
    cases rem with
    | nil =>
      -- <n
      have hp2 : ¬ p < U.size := by
        intro h1
        have h2 := HDP.out
        have h3 : (U.data.toList.drop p).length = 0 := by rw [h2]; rfl
        rw [List.length_drop, data_length] at h3; omega
      have hLs : 0 < Ls.length := by have := List.length_pos_iff.2 hH; simp at hLl; omega
      have hq1 : decide ((p : Int) < (U.size : Int)) = false := decide_eq_false (by omega)
      have hq2 : decide (p < U.size) = false := decide_eq_false hp2
      have hq3 : ((Ls.length : Int) == 0) = false := beq_eq_false_iff_ne.2 (by omega)
      have hq4 : decide (Ls.length = 0) = false := decide_eq_false (by omega)
      have hR := HRN.out
      injection hR with hR
      injection hR with hR1 hR2
      subst hR1 hR2
      have HHs := Lib.hid (show Ls.map (·.h) = H by simpa using hHs)
      obtain ⟨OUT, hOUT⟩ : ∃ OUT, OUT = acc ++ L.drop d := ⟨_, rfl⟩
      have HOUT := Lib.hid hOUT
      have HEN : Aside0 (Ended OUT) := ⟨by rw [hOUT]; exact HEND.out⟩
      have hfl2 : OUT.flatten.length ≤ 1000000000000000 := by rw [hOUT]; exact hfl
      obtain ⟨yA, yn, yc⟩ := y
      obtain rfl : yn = acc.length := HRS1.out.yn
      have c3 : wr.cell? ⟨w0.heap.size, 3, none⟩ = some (.slice oA L.length oc) := blk_cell cg 3
      have c4 : wr.cell? ⟨w0.heap.size, 4, none⟩ = some (.int .i64 (d : Int)) := blk_cell cg 4
      have c5 : wr.cell? ⟨w0.heap.size, 5, none⟩ = some (.slice yA acc.length yc) := blk_cell cg 5
      have hold : wr.ownsRow w0.heap.size 9 1 (.slice oA L.length oc) L.length (rowS L) ∨ wr.ownsRow 0 9 1 (.slice oA L.length oc) L.length (rowS L) := Or.inr (pw_own_below (own_lower' HO0.out (Nat.zero_le _)) HRS1.out.bl)
      have hold2 : wr.ownsRow 0 9 1 (.slice oA L.length oc) L.length (rowS L) := pw_own_below (own_lower' HO0.out (Nat.zero_le _)) HRS1.out.bl
      have hseg := seg_of hold2 hD (Nat.le_refl L.length)
      rw [List.take_length] at hseg
      unfold sliced at hseg
      have hsegD : Seg wr.drew 1 _ (L.length - d) (rowS (L.drop d)) := hseg
      have hseg2 := hsegD
      simp only [Nat.mul_one] at hseg2
      have HSEG := Aside0.mk hsegD
      have HSEG2 := Aside0.mk hseg2
      have hoc : L.length ≤ oc := by
        rcases hold2.2 with ⟨hv, h0⟩ | ⟨_, _, _, hv, _, _, hn, _⟩
        · injection hv with e1 e2 e3; omega
        · injection hv with e1 e2 e3; omega
      obtain ⟨iS, hiS, hzS0, hzS1, hzS2⟩ := info_parts info_string
      have hws : w0.heap.size ≤ wr.heap.size := HRS1.out.bl.size
      have i1 : (0 : Int) ≤ (d : Int) := by omega
      have i2 : (d : Int) ≤ (L.length : Int) := by omega
      have i3 : (L.length : Int) ≤ (oc : Int) := by omega
      have hol : OUT.length = acc.length + (L.length - d) := by rw [hOUT, List.length_append, List.length_drop]
      have HOL := Lib.hid hol
      have HOL2 : OUT.length ≤ 1100000000 := by omega
      clear hseg hseg2 hsegD hold hold2 cg hHs hOUT hol hLl
      go_upto_region 11 with fail
      go_cut [76, 77, 78] (fun v76 v77 v78 wx => ∃ (A8 : Option Addr) (n8 cap8 : Nat), v76 = .slice A8 n8 cap8 ∧ v77 = .int .i64 (n8 : Int) ∧ v78 = .int .i64 0 ∧ Hid (n8 = OUT.length) ∧ Aside0 (wx.ownsRow w0.heap.size 9 1 (.slice A8 n8 cap8) n8 (rowS OUT)) ∧ Aside0 (wx.ownsRow w0.heap.size 46 6 (.slice hA Ls.length hc) Ls.length (rowH Ls)) ∧ Aside0 (Below w0.heap.size w0 wx))
      case first =>
        go_region_law
          ((refine step_append_seg (by rfl) _ _ _ (by rfl) w0.heap.size 9 iS _ 1 16 Tryz.underlying29 hiS hzS0 hzS1 hzS2 rfl (by omega) (.slice yA acc.length yc) _ _ (by rfl) (HRS1.out.out.drew) (L.length - d) (rowS (L.drop d)) (by first | exact HSEG.out | exact HSEG2.out) (by intro u hu; unfold rowS at hu; obtain ⟨_, _, rfl⟩ := List.mem_map.1 hu; rfl) (by unfold maxLen; omega) (by omega) (by simp; omega) ?_; intro A8 cap8 w8 hown8 hgrow8 hat8))
        all_goals
          have HF8 := Aside0.mk (Fr.of_drew (Fr.of_grown hgrow8))
          have HW8 := Aside0.mk hown8
          clear hown8 hgrow8 hat8
          go_wp2_with fail
          repeat (go_meet; exact ⟨A8, _, cap8, rfl, rfl, rfl, Lib.hid HOL.out.symm, ⟨by rw [HOUT.out, rowS_append]; exact HW8.out⟩, ⟨own_fr HRW.out HF8.out (fun b hb hs => own_ne_own HRW.out HRS1.out.out (by decide) b hb hs)⟩, ⟨HRS1.out.bl.trans (HF8.out.below hws (fun x hx => own_ge HRS1.out.out x hx.symm))⟩⟩)
      case rest =>
        obtain ⟨A8, n8, cap8, rfl, rfl, rfl, HN8, HO8, HH8, HB8⟩ := hcut
        clear c1 c2 c3 c4 c5 i1 i2 i3 hq1 hq2 hq3 hq4
        go_wp2_with fail
        go_loopg [13, 78] OUT.length (fun gk v13 v78 wx => ∃ (k : Nat) (s : ByteArray), k + gk = OUT.length ∧ v78 = .int .i64 (k : Int) ∧ v13 = .string s ∧ Hid (s = mkS (OUT.take k).flatten) ∧ wx = wc)
        case atStart => exact ⟨0, ⟨#[]⟩, by omega, rfl, rfl, Lib.hid rfl, rfl⟩
        case round =>
          obtain ⟨k, s, hkg, rfl, rfl, HS, rfl⟩ := hrel
          by_cases hlt : k < OUT.length
          · obtain ⟨g8, cap9, hv, hc9, hcap⟩ := own_get HO8.out k _ (rowS_get hlt)
            injection hv with e1 e2 e3
            subst e1 e3
            have b1 : k < n8 := by rw [HN8.out]; exact hlt
            obtain ⟨l, hl⟩ : ∃ l, l = mkS OUT[k] := ⟨_, rfl⟩
            rw [← hl] at hc9
            have sl : l.size ≤ 1000000000000000 := by rw [hl, mkS_size]; have := get_len_le hlt; omega
            have ss : s.size ≤ 1000000000000000 := by rw [HS.out, mkS_size]; have := take_len_le (L := OUT) k; omega
            have HS2 : Hid (s ++ l = mkS (OUT.take (k + 1)).flatten) := Lib.hid (by
              rw [HS.out, hl, flat_take_succ hlt]
              apply ByteArray.ext
              simp [mkS])
            have HLE := Aside0.mk (fun (h0 : 0 < k) => last_end HS.out (ended_take HEN.out hlt h0))
            have kn : n8 ≤ 4611686018427387904 := by rw [HN8.out]; have := HOL2; omega
            clear hl hcap e2
            by_cases hk0 : k = 0
            · have hk1 : decide (0 < k) = false := decide_eq_false (by omega)
              have hk2 : decide ((0 : Int) < (k : Int)) = false := decide_eq_false (by omega)
              clear hk0
              go_wp2_with fail
              go_roundg (OUT.length - (k + 1))
              case rel => exact ⟨k + 1, s ++ l, by omega, by go_num, rfl, HS2, rfl⟩
              case measure => omega
            · have hk1 : decide (0 < k) = true := decide_eq_true (by omega)
              have hk2 : decide ((0 : Int) < (k : Int)) = true := decide_eq_true (by omega)
              obtain ⟨hs0, hln⟩ := HLE.out (by omega)
              have hln2 := hln (by omega)
              have hse : s.toList.isEmpty = false := by
                rw [toList_data]
                cases hx : s.data.toList with
                | nil => have := data_length s; rw [hx] at this; simp at this; omega
                | cons c t => rfl
              clear hk0 hln
              go_wp2_with fail
              go_roundg (OUT.length - (k + 1))
              case rel => exact ⟨k + 1, s ++ l, by omega, by go_num, rfl, HS2, rfl⟩
              case measure => omega
          · have b1 : ¬ k < n8 := by rw [HN8.out]; exact hlt
            have b2 : decide (k < n8) = false := decide_eq_false b1
            go_wp2_with fail
            go_ret3
            have e1 : s = mkS OUT.flatten := by rw [HS.out, List.take_of_length_le (by omega)]
            exact ⟨_, Ls, by rw [e1, HOUT.out]; rfl, HHs.out, hfs, own_lower' HH8.out HB0.out.size, HB0.out.trans (HB8.out.mono HB0.out.size)⟩
      -- n>
    | cons h t =>
      have hpl : p < U.size := by
        have := drop_le HDP.out (rHks_pos (by simp))
        rcases Nat.lt_or_ge p U.size with h1 | h1
        · exact h1
        · have h2 := HDP.out
          rw [List.drop_eq_nil_of_le (by rw [data_length]; exact h1)] at h2
          exact absurd h2.symm (rHks_pos (by simp))
      have hgd := hg h (by rw [← hHs]; simp)
      have hR := HRN.out
      unfold runH at hR
      have hcd : d ≤ h.f - 1 ∧ h.f - 1 ≤ L.length := Classical.byContradiction fun hn => by rw [if_neg hn] at hR; cases hR
      rw [if_pos hcd] at hR
      obtain ⟨⟨d', acc'⟩, hr1, hr2⟩ := Option.bind_eq_some_iff.1 hR
      have hr3 : runH L t d' acc' = some (D, ACC) := hr2
      have hacc' := runH_len hr3
      have hdp : U.data.toList.drop p = rHk h ++ rHks t := by rw [HDP.out, rHks_cons]
      have hq3 := hits h (by rw [← hHs]; simp)
      have hhk := hunk_calls w0 wr w0.heap.size U ⟨oA, L.length, oc⟩ y p d d' acc acc' h L (rHks t) HRS1.out.bl.size hU (own_lower' HO0.out (Nat.zero_le _)) (by omega) HRS1.out hgd.f1 (by have := hgd.fm; omega) (by have := hgd.tm; omega) (good_from hgd) (good_to hgd) hgd.ln hcd.1 hcd.2 hr1 hdp (rHks_head t) (by omega) hq3
      have HHK := Aside0.mk (hhk.mono fun _ _ k => k.two)
      have hp2 : p + (rHk h).length ≤ U.size := Rd.drop_size hdp (rHk_ne h)
      have hdp2 : U.data.toList.drop (p + (rHk h).length) = rHks t := Rd.drop_more hdp
      have HD2 := Lib.hid hdp2
      have HR2 := Lib.hid hr3
      obtain ⟨iS, hiS, hzS0, hzS1, hzS2⟩ := info_parts info_hunk
      have hpl2 : decide ((p : Int) < (U.size : Int)) = true := decide_eq_true (by omega)
      clear hhk hdp hdp2 hr1 hr2 hr3 hR cg hacc' hgd hcd hq3
      go_upto_region 7 with fail
      have HNB := Aside0.mk (fun (w6 : World) (hh6 : Fr wr w6 (fun k => k = w0.heap.size ∨ some k = (pv y).ownBlock)) => own_fr HRW.out hh6 (fun b hb hs => by
        rcases hs with rfl | hs
        · exact own_ne_blk HRW.out HRS1.out.blk.1 (by decide) hb
        · exact own_ne_own HRW.out HRS1.out.out (by decide) b hb hs))
      go_wp2_with (first
        | (go_at_call 20; go_loud ((with_reducible refine HHK.out.mono ?_); rintro e w6 ⟨f, t', fc, tc, ha, hb, y', rfl, HB6, HF6, HH6⟩; have HRW6 := Aside0.mk (HNB.out w6 HH6.out.fr); have hws := HH6.out.rs.bl.size))
        | (at_builtin; go_loud (refine wpList_append_lies _ (by rfl) (.tmp 53) (.tmp 56) 23 (by rfl) w0.heap.size 46 iS _ 6 48 Tryz.underlying23 hiS hzS0 hzS1 hzS2 (by rfl) (by decide) _ _ _ (by rfl) (own_alloc HRW6.out _) ⟨w6.heap.size, 0, none⟩ 1 1 [.int .i64 f, .int .i64 fc, .int .i64 t', .int .i64 tc, .int .i64 ha, .int .i64 hb] (by rfl) (by rfl) ?h1 ?h2 ?h25 ?h3 ?h4 ?h5 _ rfl ?_; (case h1 => exact new_cells w6 _ _); (case h2 => intro u hu; simp at hu; rcases hu with rfl | rfl | rfl | rfl | rfl | rfl <;> rfl); (case h25 => decide); (case h3 => unfold maxLen; omega); (case h4 => omega); (case h5 => simp; omega); intro gg cap2 w7 hown1 hgrow hat hlt1; have HO7 := Aside0.mk hown1; have HG7 := Aside0.mk hgrow; clear hown1 hgrow hat)))
      go_roundg t.length
      case rel =>
        -- <r
        have HY := HH6.out
        have hneg : (Value.slice hA Ls.length hc).ownBlock ≠ some w0.heap.size := own_ne_blk HRW6.out HY.rs.blk.1 (by decide)
        have hfr := Fr.then_ (S := fun k => some k = (Value.slice hA Ls.length hc).ownBlock) (Fr.alloc_ w6 _ _) (Fr.of_grown HG7.out) (fun k hk => Or.inl hk)
        refine ⟨t, Ls ++ [⟨f, t', h⟩], y', p + (rHk h).length, d', acc', ?_, rfl, ?_, HR2, HD2, hp2, ⟨HY.rs.fr hfr ?_⟩, ⟨?_⟩⟩
        · rw [← hHs]; simp
        · intro x hx
          rcases List.mem_append.1 hx with hx | hx
          · exact hfs x hx
          · rw [List.mem_singleton.1 hx]; exact HF6.out
        · intro x hx
          exact ⟨own_ge HRW6.out x hx.symm, fun e => hneg (by rw [← hx, e]), fun e => own_ne_own HY.rs.out HRW6.out (by decide) x e hx⟩
        · rw [List.length_append, rowH_append, show rowH [(⟨f, t', h⟩ : HB)] = [.int .i64 f, .int .i64 fc, .int .i64 t', .int .i64 tc, .int .i64 ha, .int .i64 hb] by rw [← HB6.out]; simp [rowH]]; exact HO7.out
        -- r>
      case measure => simp
end Go.Proofs.YtonajgipkpnpoaaGreatDoor.Un
namespace Go.Proofs.YtonajgipkpnpoaaGreatDoor.Un
open Go.RowKit Go.Proofs.YtonajgipkpnpoaaGreatDoorW.PrintWords Go.Proofs.YtonajgipkpnpoaaGreatDoorW.PrintLast Go.Proofs.YtonajgipkpnpoaaGreatDoorW.PrintMore Go.Uni
set_option linter.unusedVariables false
set_option linter.unusedSimpArgs false
set_option maxRecDepth 100000 in
theorem read_nil (W : World) (a b old : ByteArray) :
    Calls Tryz.prog 8 #[.string ⟨#[]⟩, .string a, .string b, .string old] W fun e w' => ReadPost W old [] e w' := by
  have hnew : (W.alloc (.cells #[] 46)).ownsRow W.heap.size 46 6 (.slice (some ⟨W.heap.size, 0, none⟩) 0 0) 0 [] := World.ownsRow_lit W #[] 0 (Nat.le_refl _) (by decide) rfl
  have HNEW := Aside0.mk hnew
  have hz : (⟨#[]⟩ : ByteArray).toList.isEmpty = true := by rw [ByteArray.toList_eq]; rfl
  clear hnew
  go_enter Tryz.func8, Tryz.ntmps8
  go_wp2_with fail
  go_ret3
  exact ⟨_, [], rfl, rfl, (fun x hx => by cases hx), HNEW.out, below_alloc (Below.refl _ _) _⟩
end Go.Proofs.YtonajgipkpnpoaaGreatDoor.Un
