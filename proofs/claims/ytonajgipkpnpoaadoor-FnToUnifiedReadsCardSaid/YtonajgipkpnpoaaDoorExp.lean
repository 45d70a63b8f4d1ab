/- expandEdit: an edit made whole lines. -/
import Derived.Test.YtonajgipkpnpoaaDoorCLe
import Derived.Test.YtonajgipkpnpoaaDoorShelf
import Derived.Test.YtonajgipkpnpoaaDoorRdE
import Derived.Lib.LastIndexByte
import Derived.Lib.IndexLaws
import Derived.RegionTactic
import Derived.BigRegion
namespace Go.Proofs.YtonajgipkpnpoaaDoor.Un
open Go.RowKit Go.Proofs.YtonajgipkpnpoaaDoorW.PrintWords Go.Proofs.YtonajgipkpnpoaaDoorW.PrintLast Go.Proofs.YtonajgipkpnpoaaDoorW.PrintMore Go.Uni
set_option linter.unusedVariables false
set_option linter.unusedSimpArgs false

theorem bang_get {s : ByteArray} {j : Nat} (hj : j < s.data.toList.length) : s.data[j]! = s.data.toList[j] := by
  rw [getElem!_pos s.data j (by simpa using hj)]; simp

theorem last_line (c : ByteArray) {s : Nat} (hs : s ≤ c.size) : ∃ q, q ≤ s ∧ Lib.lastIndexByte (c.extract 0 s) 10 = (q : Int) - 1 ∧ LS c.data.toList q ∧ NoNl (btw c.data.toList q s) := by
  have hl : (c.extract 0 s).data.toList = c.data.toList.take s := by rw [ext_toList, List.drop_zero]
  have hcl := data_length c
  have hsz : (c.extract 0 s).size = s := by rw [← data_length, hl, List.length_take]; omega
  have key : ∀ j, (h : j < s) → ((((c.extract 0 s).data[j]!).toNat : Nat) : Int) = ((c.data.toList[j]'(by omega)).toNat : Int) := fun j h => by
    rw [bang_get (by rw [hl, List.length_take]; omega)]
    congr 2
    simp only [hl, List.getElem_take]
  rcases Lib.lastIndexByte_spec (c.extract 0 s) 10 with ⟨h1, h2⟩ | ⟨i, h1, h2, h3, h4⟩
  · refine ⟨0, Nat.zero_le _, by rw [h1]; rfl, by unfold LS; rw [List.take_zero]; exact whole_nil, ?_⟩
    intro d hd he
    subst he
    unfold btw at hd
    rw [List.drop_zero] at hd
    obtain ⟨j, hj, hj2⟩ := List.mem_take_iff_getElem.1 hd
    have hjs : j < s := by omega
    have := h2 j (by omega)
    rw [key j hjs, hj2] at this
    exact this rfl
  · have hi : i < s := by omega
    rw [key i hi] at h3
    have h6 : (c.data.toList[i]'(by omega)).toNat = 10 := by omega
    have h5 : c.data.toList[i]'(by omega) = 10 := UInt8.toNat_inj.1 (h6.trans rfl)
    refine ⟨i + 1, by omega, by rw [h2]; omega, ?_, ?_⟩
    · unfold LS
      right
      unfold EndNl
      rw [List.take_succ_eq_append_getElem (by omega), List.getLast?_append, h5]; rfl
    · intro d hd he
      subst he
      unfold btw at hd
      obtain ⟨j, hj, hj2⟩ := List.mem_iff_getElem.1 hd
      rw [List.getElem_drop, List.getElem_take] at hj2
      rw [List.length_drop, List.length_take] at hj
      have := h4 (i + 1 + j) (by omega) (by omega)
      rw [key (i + 1 + j) (by omega), hj2] at this
      exact this rfl

theorem next_line (c : ByteArray) {e : Nat} (he : e ≤ c.size) : (Lib.indexByte (c.extract e c.size).data.toList 10 < 0 ∧ NextEnd c.data.toList e c.size) ∨ ∃ k : Nat, Lib.indexByte (c.extract e c.size).data.toList 10 = (k : Int) ∧ e + k + 1 ≤ c.size ∧ NextEnd c.data.toList e (e + k + 1) := by
  have hcl := data_length c
  have hl : (c.extract e c.size).data.toList = c.data.toList.drop e := by rw [ext_toList, List.take_of_length_le (by omega)]
  rw [hl]
  have hge := Lib.indexByte_ge (c.data.toList.drop e) 10
  by_cases hn : Lib.indexByte (c.data.toList.drop e) 10 = -1
  · left
    refine ⟨by omega, he, by omega, Or.inl ⟨hcl.symm, ?_⟩⟩
    intro d hd hd2
    subst hd2
    unfold btw at hd
    rw [List.take_of_length_le (by omega)] at hd
    obtain ⟨j, hj, hj2⟩ := List.mem_iff_getElem.1 hd
    exact Lib.indexByte_none hn j (by rw [List.getElem?_eq_getElem hj, hj2])
  · right
    obtain ⟨k, hk⟩ : ∃ k : Nat, Lib.indexByte (c.data.toList.drop e) 10 = k := ⟨(Lib.indexByte (c.data.toList.drop e) 10).toNat, by omega⟩
    obtain ⟨h1, h2⟩ := Lib.indexByte_some hk
    have hlt := (List.getElem?_eq_some_iff.1 h1).1
    rw [List.length_drop] at hlt
    refine ⟨k, hk, by omega, by omega, by omega, Or.inr ⟨(c.data.toList.drop e).take k, ?_, ?_⟩⟩
    · unfold btw
      rw [List.drop_take, show e + k + 1 - e = k + 1 by omega, List.take_succ_eq_append_getElem (by rw [List.length_drop]; omega)]
      rw [(List.getElem?_eq_some_iff.1 h1).2]
    · intro d hd hd2
      subst hd2
      obtain ⟨j, hj, hj2⟩ := List.mem_take_iff_getElem.1 hd
      exact h2 j (by omega) (by rw [List.getElem?_eq_getElem (by omega), hj2])

/-- what expandEdit leaves -/
def ExpPost (W : World) (c : Bs) (x : BE) (e : Ending) (w' : World) : Prop :=
  ∃ y : BE, e = .returned (.agg #[.int .i64 (y.s : Int), .int .i64 (y.e : Int), .string (mkS y.new)]) ∧ Expand c x y ∧ Below W.heap.size W w'

instance decLS (c : Bs) (p : Nat) : Decidable (LS c p) := by unfold LS; infer_instance
/-- the byte ahead of a place, where it is no beginning of a line -/
theorem prev_nl (c : ByteArray) {e : Nat} (h0 : 0 < e) (he : e ≤ c.size) (hh : e - 1 < c.size) : (((c[e - 1]'hh).toNat : Int) != 10) = decide (¬ LS c.data.toList e) := by
  have hl := data_length c
  have e1 : (c.data.toList.take e)[e - 1]? = some (c[e - 1]'hh) := by
    rw [List.getElem?_take, if_pos (by omega), List.getElem?_eq_getElem (by omega)]; rfl
  have e0 : (c.data.toList.take e).length = e := by rw [List.length_take]; omega
  have e2 : LS c.data.toList e ↔ c[e - 1]'hh = 10 := by
    unfold LS
    constructor
    · rintro (h | h)
      · rw [h] at e0; simp at e0; omega
      · rw [endNl_get, e0, e1] at h; exact Option.some.inj h
    · intro h
      exact Or.inr (endNl_get.2 (by rw [e0, e1, h]))
  rw [Bool.eq_iff_iff]
  simp only [bne_iff_ne, ne_eq, decide_eq_true_eq, e2]
  constructor
  · intro h1 h2; exact h1 (by rw [h2]; rfl)
  · intro h1 h2; exact h1 (UInt8.toNat_inj.1 (by have : (c[e - 1]'hh).toNat = 10 := by omega
                                                 rw [this]; rfl))

theorem ls_zero (c : Bs) : LS c 0 := by unfold LS; rw [List.take_zero]; exact whole_nil

theorem two_heap (W : World) (a b : Obj) : ((W.alloc a).alloc b).heap[W.heap.size]? = some a ∧ ((W.alloc a).alloc b).heap[W.heap.size + 1]? = some b ∧ Below W.heap.size W ((W.alloc a).alloc b) := by
  refine ⟨?_, ?_, ?_⟩
  · exact (Below.heap_alloc _ _ _ (by simp)).trans (new_obj W a)
  · have := new_obj (W.alloc a) b
    simpa using this
  · exact ((Below.refl _ _).alloc (Nat.le_refl _) _).alloc (by simp) _

theorem mkS_app (a b : Bs) : mkS a ++ mkS b = mkS (a ++ b) := by
  apply ByteArray.ext
  simp [mkS]

set_option maxRecDepth 100000 in
set_option maxHeartbeats 4000000 in
theorem expand_calls (W : World) (c : ByteArray) (s e : Nat) (new : Bs) (hc : c.size ≤ 1000000) (hx : s ≤ e) (hxe : e ≤ c.size) (hnew : new.length ≤ 1000000000) :
    Calls Tryd.prog 42 #[.agg #[.int .i64 (s : Int), .int .i64 (e : Int), .string (mkS new)], .string c] W (ExpPost W c.data.toList ⟨s, e, new⟩) := by
  obtain ⟨q, hq, hli, hls, hnn⟩ := last_line c (s := s) (by omega)
  have hLI : ∀ w, Calls Tryd.prog 52 #[.string (c.extract 0 s), .string ⟨#[10]⟩] w fun e w' => e = .returned (.int .i64 ((q : Int) - 1)) ∧ w = w' := fun w => by
    refine (Tryd.strings_LastIndex_one (c.extract 0 s) ⟨#[10]⟩ rfl (by rw [← data_length, ext_toList, List.length_drop, List.length_take, data_length]; omega) w).mono ?_
    rintro e w' ⟨rfl, rfl⟩
    exact ⟨by rw [← hli]; rfl, rfl⟩
  have HLI := Aside0.mk hLI
  obtain ⟨N, hN⟩ : ∃ N, N = mkS new := ⟨_, rfl⟩
  have hNs : N.size ≤ 1000000000 := by rw [hN, mkS_size]; exact hnew
  obtain ⟨N1, hN1⟩ : ∃ N1, N1 = mkS (btw c.data.toList q s ++ new) := ⟨_, rfl⟩
  have hbl : (btw c.data.toList q s).length ≤ 1000000 := by rw [btw_length (by rw [data_length]; omega)]; omega
  have hN1s : N1.size ≤ 1001000000 := by rw [hN1, mkS_size, List.length_append]; omega
  have HN := Lib.hid hN
  have HN1 := Lib.hid hN1
  have HLS := Aside0.mk hls
  have HNN := Aside0.mk hnn
  rw [← hN]
  clear hLI hli hls hnn hN hN1 hbl
  have h0s : (s : Int) ≤ (c.size : Int) := by omega
  go_enter Tryd.func42, Tryd.ntmps42
  go_upto_if 19 with (go_at_call 52; (with_reducible refine (HLI.out _).mono ?_); rintro e w1 ⟨rfl, rfl⟩)
  go_cut [] (fun wx => Aside0 (wx.heap[W.heap.size]? = some (.cells #[.int .i64 (q : Int), .int .i64 (e : Int), .string N1] 66 (0, 0))) ∧ Aside0 (wx.heap[W.heap.size + 1]? = some (.cells #[.int .i64 0, .int .i64 0, .string ⟨#[]⟩] 66 (0, 0))) ∧ Aside0 (Below W.heap.size W wx))
  case first =>
    have r0 : (0 : Int) ≤ (s : Int) - ((s : Int) - 1 - ((q : Int) - 1)) := by omega
    have r1 : (s : Int) - ((s : Int) - 1 - ((q : Int) - 1)) ≤ (s : Int) := by omega
    have r2 : ((s : Int) - ((s : Int) - 1 - ((q : Int) - 1))).toNat = q := by omega
    by_cases hd : q < s
    · have ev : c.extract q s ++ N = N1 := by rw [HN.out, HN1.out, ext_mkS, mkS_app]; rfl
      have hH := two_heap W (.cells #[.int .i64 ((s : Int) - ((s : Int) - 1 - ((q : Int) - 1))), .int .i64 (e : Int), .string (c.extract q s ++ N)] 66) (.cells #[.int .i64 0, .int .i64 0, .string ⟨#[]⟩] 66)
      have r3 : (s : Int) - ((s : Int) - 1 - ((q : Int) - 1)) = (q : Int) := by omega
      have HH := Aside0.mk hH
      have EV := Lib.hid ev
      have R3 := Lib.hid r3
      clear hH ev r3
      go_wp2_with fail
      go_region
      all_goals
        go_wp2_with fail
        repeat (go_meet; exact ⟨⟨HH.out.1.trans (by rw [R3.out, EV.out])⟩, ⟨HH.out.2.1⟩, ⟨⟨rfl, rfl, rfl, HH.out.2.2.size, HH.out.2.2.block⟩⟩⟩)
    · have hqs : q = s := by omega
      have ev : N = N1 := by rw [HN.out, HN1.out, hqs, btw_nil, List.nil_append]
      have hH := two_heap W (.cells #[.int .i64 (s : Int), .int .i64 (e : Int), .string N] 66) (.cells #[.int .i64 0, .int .i64 0, .string ⟨#[]⟩] 66)
      have HH := Aside0.mk hH
      have HQS := Lib.hid hqs
      have HEV := Lib.hid ev
      clear hH ev hqs
      go_wp2_with fail
      go_meet
      case rel => exact ⟨⟨HH.out.1.trans (by rw [HQS.out, HEV.out])⟩, ⟨HH.out.2.1⟩, ⟨HH.out.2.2⟩⟩
  case rest =>
    obtain ⟨HB2, HB4, HBL⟩ := hcut
    have c0 : wc.cell? ⟨W.heap.size, 0, none⟩ = some (.int .i64 (q : Int)) := blk_cell HB2.out 0
    have c1 : wc.cell? ⟨W.heap.size, 1, none⟩ = some (.int .i64 (e : Int)) := blk_cell HB2.out 1
    have c2 : wc.cell? ⟨W.heap.size, 2, none⟩ = some (.string N1) := blk_cell HB2.out 2
    have f1 : wc.frozen? ⟨W.heap.size, 1, none⟩ = false := blk_frozen HB2.out 1
    have f2 : wc.frozen? ⟨W.heap.size, 2, none⟩ = false := blk_frozen HB2.out 2
    have h0e : (e : Int) ≤ (c.size : Int) := by omega
    obtain ⟨n1, hn1⟩ : ∃ n1, n1 = btw c.data.toList q s ++ new := ⟨_, rfl⟩
    have HN3 : Hid (N1 = mkS n1) := Lib.hid (by rw [HN1.out, hn1])
    have HNL := Lib.hid hn1
    obtain ⟨bw, hbw⟩ : ∃ b, b = decide (¬ LS c.data.toList e ∨ ¬ Whole n1) := ⟨_, rfl⟩
    have HBW := Lib.hid hbw
    clear hn1 hbw
    go_upto_region 7 with fail
    go_cut [60] (fun v60 wx => v60 = .bool bw ∧ wx = wc)
    case first =>
      -- <1
      by_cases hA : 0 < e ∧ ¬ LS c.data.toList e
      · obtain ⟨he0, hA2⟩ := hA
        have hp := prev_nl c he0 hxe (by omega)
        rw [decide_eq_true hA2] at hp
        have hb : bw = true := by rw [HBW.out]; exact decide_eq_true (Or.inl hA2)
        have HB0 := Lib.hid hb
        have k1 : (1 : Int) ≤ (e : Int) := by omega
        clear hA2 hb
        go_wp2_with fail
        go_meet
        case rel => exact ⟨by rw [HB0.out], rfl⟩
      · have hls : LS c.data.toList e := Classical.byContradiction fun h => by
          rcases Nat.eq_zero_or_pos e with h0 | h0
          · subst h0; exact h (ls_zero _)
          · exact hA ⟨h0, h⟩
        have hpv : ∀ (h0 : 0 < e), (((c[e - 1]'(by omega)).toNat : Int) != 10) = false := fun h0 => by
          rw [prev_nl c h0 hxe (by omega)]; exact decide_eq_false (not_not_intro hls)
        have hb : bw = decide (¬ Whole n1) := by
          rw [HBW.out]
          by_cases hw : Whole n1
          · rw [decide_eq_false (not_not_intro hw), decide_eq_false (by rintro (h | h); · exact h hls
                                                                        · exact h hw)]
          · rw [decide_eq_true hw, decide_eq_true (Or.inr hw)]
        have HB0 := Lib.hid hb
        have HPV := Aside0.mk hpv
        clear hA hls hpv hb
        by_cases hn : n1 = []
        · have hw : bw = false := by rw [HB0.out]; exact decide_eq_false (not_not_intro (Or.inl hn))
          have hie : N1.toList.isEmpty = true := by rw [HN3.out, toList_data, mkS_toList, hn]; rfl
          have HW := Lib.hid hw
          clear hw hn
          by_cases he0 : 0 < e
          · have hp := HPV.out he0
            have k1 : (1 : Int) ≤ (e : Int) := by omega
            go_wp2_with fail
            go_meet
            case rel => exact ⟨by rw [HW.out], rfl⟩
          · have he1 : decide (0 < e) = false := decide_eq_false he0
            go_wp2_with fail
            go_meet
            case rel => exact ⟨by rw [HW.out], rfl⟩
        · have hie : N1.toList.isEmpty = false := by
            rw [HN3.out, toList_data, mkS_toList]
            cases n1 with
            | nil => exact absurd rfl hn
            | cons a b => rfl
          have hpos : 0 < N1.size := by rw [HN3.out, mkS_size]; exact List.length_pos_iff.2 hn
          have hln := last_nl N1 hpos (by omega)
          rw [show N1.data.toList.take N1.size = n1 by rw [List.take_of_length_le (by rw [data_length]; exact Nat.le_refl _), HN3.out, mkS_toList]] at hln
          rw [← HB0.out] at hln
          have HLN := Lib.hid hln
          have k2 : (1 : Int) ≤ (N1.size : Int) := by omega
          clear hln hn
          by_cases he0 : 0 < e
          · have hp := HPV.out he0
            have k1 : (1 : Int) ≤ (e : Int) := by omega
            go_wp2_with fail
            go_meet
            case rel => exact ⟨by rw [← HLN.out], rfl⟩
          · have he1 : decide (0 < e) = false := decide_eq_false he0
            go_wp2_with fail
            go_meet
            case rel => exact ⟨by rw [← HLN.out], rfl⟩
      -- 1>
    case rest =>
      obtain ⟨rfl, rfl⟩ := hcut
      go_upto_if 60 with fail
      go_cut [] (fun wx => ∃ ye : Nat, e ≤ ye ∧ ye ≤ c.size ∧ Hid ((bw = true → NextEnd c.data.toList e ye) ∧ (bw = false → ye = e)) ∧ Aside0 (wx.heap[W.heap.size]? = some (.cells #[.int .i64 (q : Int), .int .i64 (ye : Int), .string N1] 66 (0, 0))) ∧ Aside0 (wx.heap[W.heap.size + 1]? = some (.cells #[.int .i64 0, .int .i64 0, .string ⟨#[]⟩] 66 (0, 0))) ∧ Aside0 (Below W.heap.size W wx))
      case first =>
        -- <3
        have hset : ∀ v : Value, (wc.setCell ⟨W.heap.size, 1, none⟩ v).heap[W.heap.size]? = some (.cells #[.int .i64 (q : Int), v, .string N1] 66 (0, 0)) ∧ (wc.setCell ⟨W.heap.size, 1, none⟩ v).heap[W.heap.size + 1]? = some (.cells #[.int .i64 0, .int .i64 0, .string ⟨#[]⟩] 66 (0, 0)) ∧ Below W.heap.size W (wc.setCell ⟨W.heap.size, 1, none⟩ v) := fun v =>
          ⟨by simpa using blk_set HB2.out 1 v, (Below.heap_setCell wc ⟨W.heap.size, 1, none⟩ v (W.heap.size + 1) (by show W.heap.size + 1 ≠ W.heap.size; omega)).trans HB4.out, HBL.out.trans ((Fr.set_ wc ⟨W.heap.size, 1, none⟩ v).below HBL.out.size (fun k hk => by rw [hk]; exact Nat.le_refl _))⟩
        have HSET := Aside0.mk hset
        clear hset
        cases bw with
        | false =>
          go_wp2_with fail
          go_meet
          case rel => exact ⟨e, Nat.le_refl _, hxe, Lib.hid ⟨(fun h => by cases h), fun _ => rfl⟩, ⟨HB2.out⟩, ⟨HB4.out⟩, ⟨HBL.out⟩⟩
        | true =>
          have hib : ∀ w, Calls Tryd.prog 53 #[.string (c.extract e c.size), .int .u8 10] w fun e_1 w' => e_1 = .returned (.int .i64 (Lib.indexByte (c.extract e c.size).data.toList 10)) ∧ w = w' := fun w => by
            refine (Tryd.strings_IndexByte (c.extract e c.size) 10 w).mono ?_
            rintro e1 w' ⟨rfl, rfl⟩
            exact ⟨rfl, rfl⟩
          rcases next_line c hxe with ⟨h1, h2⟩ | ⟨k, h1, h2, h3⟩
          · obtain ⟨v, hv⟩ : ∃ v, v = Lib.indexByte (c.extract e c.size).data.toList 10 := ⟨_, rfl⟩
            rw [← hv] at h1 hib
            have HIB := Aside0.mk hib
            have H2 := Aside0.mk h2
            clear hib h2 hv
            have hk : decide (v < 0) = true := decide_eq_true h1
            go_wp2_with (go_at_call 53; (with_reducible refine (HIB.out _).mono ?_); rintro e w1 ⟨rfl, rfl⟩)
            go_meet
            case rel => exact ⟨c.size, hxe, Nat.le_refl _, Lib.hid ⟨fun _ => H2.out, (fun h => by cases h)⟩, ⟨(HSET.out _).1⟩, ⟨(HSET.out _).2.1⟩, ⟨(HSET.out _).2.2⟩⟩
          · rw [h1] at hib
            have HIB := Aside0.mk hib
            have H3 := Aside0.mk h3
            clear hib h3 h1
            have hk : decide ((k : Int) < 0) = false := decide_eq_false (by omega)
            have k2 : (e : Int) + (k : Int) + 1 ≤ (c.size : Int) := by omega
            go_wp2_with (go_at_call 53; (with_reducible refine (HIB.out _).mono ?_); rintro e w1 ⟨rfl, rfl⟩)
            go_meet
            case rel => exact ⟨e + k + 1, by omega, h2, Lib.hid ⟨fun _ => H3.out, (fun h => by cases h)⟩, ⟨(HSET.out _).1.trans (by simp)⟩, ⟨(HSET.out _).2.1⟩, ⟨(HSET.out _).2.2⟩⟩
        -- 3>
      case rest =>
        obtain ⟨ye, g1, g2, HYE, HC2, HC4, HCL⟩ := hcut
        -- <4
        have d0 := blk_cell HC2.out 0
        have d1 := blk_cell HC2.out 1
        have d2 := blk_cell HC2.out 2
        have e2 := blk_frozen HC2.out 2
        have z0 := blk_cell HC4.out 0
        have z1 := blk_cell HC4.out 1
        have z2 := blk_cell HC4.out 2
        have y0 := blk_frozen HC4.out 0
        have y1 := blk_frozen HC4.out 1
        have y2 := blk_frozen HC4.out 2
        simp only [List.getElem?_toArray, List.getElem?_cons_zero, List.getElem?_cons_succ] at d0 d1 d2 z0 z1 z2
        have g3 : (e : Int) ≤ (ye : Int) := by omega
        have g4 : (ye : Int) ≤ (c.size : Int) := by omega
        have gs : (c.extract e ye).size ≤ 1000000 := by rw [← data_length, ext_toList, List.length_drop, List.length_take, data_length]; omega
        clear c0 c1 c2 f1 f2
        go_upto_region 12 with fail
        go_region
        all_goals
          go_wp2_with fail
          have hA := (Below.heap_setCell wc ⟨W.heap.size, 2, none⟩ (.string (N1 ++ c.extract e ye)) (W.heap.size + 1) (by show W.heap.size + 1 ≠ W.heap.size; omega)).trans HC4.out
          have a6 := blk_set (blk_set (blk_set hA 0 (.int .i64 (q : Int))) 1 (.int .i64 (ye : Int))) 2 (.string (N1 ++ c.extract e ye))
          refine bodyPost_ret (results_cell rfl _ _ (W.heap.size + 1) 66 #[.int .i64 (q : Int), .int .i64 (ye : Int), .string (N1 ++ c.extract e ye)] (0, 0) _ rfl a6 Tryd.underlying66 rfl (by kernel_rfl)) rfl ?_
          have hN2 : N1 ++ c.extract e ye = mkS (btw c.data.toList q s ++ new ++ btw c.data.toList e ye) := by rw [HN1.out, ext_mkS, mkS_app]; rfl
          refine ⟨⟨q, ye, btw c.data.toList q s ++ new ++ btw c.data.toList e ye⟩, by rw [← hN2], ⟨hq, HLS.out, HNN.out, ?_, ?_, rfl⟩, ?_⟩
          · intro hnd
            refine HYE.out.1 ?_
            rw [HBW.out, HNL.out]
            exact decide_eq_true hnd
          · intro hnd
            refine HYE.out.2 ?_
            rw [HBW.out, HNL.out]
            exact decide_eq_false hnd
          · have hf : ∀ (w : World) (v0 v1 v2 v3 : Value), Fr w ((((w.setCell ⟨W.heap.size, 2, none⟩ v0).setCell ⟨W.heap.size + 1, 0, none⟩ v1).setCell ⟨W.heap.size + 1, 1, none⟩ v2).setCell ⟨W.heap.size + 1, 2, none⟩ v3) (fun k => W.heap.size ≤ k) := fun w v0 v1 v2 v3 =>
              Fr.then_ (Fr.then_ (Fr.then_ ((Fr.set_ w ⟨W.heap.size, 2, none⟩ _).mono (fun k hk => by rw [hk]; exact Nat.le_refl _)) (Fr.set_ _ ⟨W.heap.size + 1, 0, none⟩ _) (fun k hk => Or.inl (by rw [hk]; exact Nat.le_succ _))) (Fr.set_ _ ⟨W.heap.size + 1, 1, none⟩ _) (fun k hk => Or.inl (by rw [hk]; exact Nat.le_succ _))) (Fr.set_ _ ⟨W.heap.size + 1, 2, none⟩ _) (fun k hk => Or.inl (by rw [hk]; exact Nat.le_succ _))
            have hf2 := (hf wc (.string (N1 ++ c.extract e ye)) (.int .i64 (q : Int)) (.int .i64 (ye : Int)) (.string (N1 ++ c.extract e ye))).below HCL.out.size (fun k hk => hk)
            have hf3 := HCL.out.trans hf2
            exact ⟨hf3.os, hf3.tape, hf3.output, hf3.size, hf3.block⟩
        -- 4>
end Go.Proofs.YtonajgipkpnpoaaDoor.Un
