/- toUnified: the hunks of edits. LinesOf: the lines of a text. -/
import Derived.Test.YtonajgipkpnpoaaGreatDoorC20
import Derived.Deep.LoopGhost
import Derived.Deep.DeepCutAuto
import Derived.Test.YtonajgipkpnpoaaGreatDoorC14
import Derived.Test.YtonajgipkpnpoaaGreatDoorC12
import Derived.Test.YtonajgipkpnpoaaGreatDoorC02
namespace Go.Proofs.YtonajgipkpnpoaaGreatDoor.Un
open Go.RowKit Go.Proofs.YtonajgipkpnpoaaGreatDoorW.PrintWords Go.Proofs.YtonajgipkpnpoaaGreatDoorW.PrintLast Go.Proofs.YtonajgipkpnpoaaGreatDoorW.PrintMore Go.Uni
set_option linter.unusedVariables false
set_option linter.unusedSimpArgs false
def LePost (W : World) (c : Bs) (es : List BE) (e : Ending) (w' : World) : Prop :=
  ∃ v ys, e = .returned (.tuple #[v, .nilIface]) ∧ LineEd c es ys ∧ w'.ownsRow 0 68 3 v ys.length (rowE ys) ∧ Below W.heap.size W w'
def TuPost (W : World) (c : Bs) (ctx : Nat) (es : List BE) (fa fb : ByteArray) (e : Ending) (w' : World) : Prop :=
  ∃ (vh : Value) (hs : List HX) (ys : List BE), e = .returned (.tuple #[.agg #[.string fa, .string fb, vh], .nilIface]) ∧ LineEd c es ys ∧ w'.ownsRow W.heap.size 86 1 vh hs.length (hs.map fun (x : HX) => .pointer (some ⟨x.1, 0, none⟩)) ∧ (∀ x ∈ hs, HkV w' W.heap.size x.1 x.2.1 x.2.2) ∧ hs.map (fun x => x.2.2) = fin ctx (splitL c) (stAt ctx c ys ys.length) ∧ Below W.heap.size W w'
theorem zz_at (c : ByteArray) (hc : c.size ≤ 1000000) (p m : Nat) (hm : cnt (c.data.toList.take p) = m) (w : World) : Calls Tryz.prog 43 #[.string (c.extract 0 p), .string ⟨#[10]⟩] w fun e w' => e = .returned (.int .i64 (m : Int)) ∧ w = w' := by
  have h := zzCount_nl (c.extract 0 p) w (by rw [← data_length, ext_toList, List.drop_zero, List.length_take, data_length]; omega)
  rw [ext_toList, List.drop_zero, hm] at h
  exact h
theorem own_lower {w : World} {base base' : Nat} {e : TypeId} {size n : Nat} {v : Value} {xs : List Value} (h : w.ownsRow base e size v n xs) (hb : base' ≤ base) : w.ownsRow base' e size v n xs := by
  refine ⟨h.1, h.2.imp id ?_⟩
  rintro ⟨g, cap, cur, h1, h2, h3⟩
  exact ⟨g, cap, cur, h1, Nat.le_trans hb h2, h3⟩
theorem al_mid {c : Bs} : ∀ (ys : List BE) (p i : Nat) (y : BE), Al c ys p → ys[i]? = some y → y.s ≤ y.e ∧ y.e ≤ c.length ∧ LS c y.s ∧ LP c y.e
  | [], p, i, y, _, h => by simp at h
  | e :: t, p, 0, y, ⟨h1, h2, h3, h4, h5, h6, h7⟩, h => by
    obtain rfl : e = y := by simpa using h
    exact ⟨h2, h3, h4, h5⟩
  | e :: t, p, i + 1, y, ⟨h1, h2, h3, h4, h5, h6, h7⟩, h => al_mid t e.e i y h7 (by simpa using h)
theorem pre_none {ctx : Nat} {L : List Bs} {st : St} {a : Nat} (h : st.h = none) : pre ctx L st a = (st.H, hkNew ctx L st a, st.tl + (a - st.last)) := by unfold pre; rw [h]
theorem pre_same {ctx : Nat} {L : List Bs} {st : St} {a : Nat} {k : Hk} (h : st.h = some k) (e : a = st.last) : pre ctx L st a = (st.H, k, st.tl) := by unfold pre; rw [h]; exact if_pos e
theorem pre_join {ctx : Nat} {L : List Bs} {st : St} {a : Nat} {k : Hk} (h : st.h = some k) (e : a ≠ st.last) (e2 : a ≤ st.last + 2 * ctx) : pre ctx L st a = (st.H, hkAdd k (eqs L st.last a), st.tl) := by unfold pre; rw [h]; dsimp only; rw [if_neg e, if_pos e2]
theorem pre_new {ctx : Nat} {L : List Bs} {st : St} {a : Nat} {k : Hk} (h : st.h = some k) (e : a ≠ st.last) (e2 : ¬ a ≤ st.last + 2 * ctx) : pre ctx L st a = (st.H ++ [hkAdd k (eqs L st.last (st.last + ctx))], hkNew ctx L st a, st.tl + (a - st.last)) := by unfold pre; rw [h]; dsimp only; rw [if_neg e, if_neg e2]
theorem info_ph : (Tryz.prog.info? 86).map (fun i => (i.zero, i.size, i.bytes)) = some (some (.pointer none), 1, 8) := by kernel_rfl
theorem mem_tot : ∀ (ys : List BE) (y : BE), y ∈ ys → y.new.length ≤ tot ys
  | [], y, h => by cases h
  | e :: t, y, h => by
    simp only [tot, List.map_cons, List.sum_cons]
    rcases List.mem_cons.1 h with rfl | h
    · omega
    · have := mem_tot t y h
      simp only [tot] at this
      omega
theorem gr_drew {w w1 : World} {row : Option Nat} (h : w.grownBy w1 row) : w.drew.grownBy w1 row := ⟨h.os, h.tape, h.output, h.size, h.block⟩
theorem results_two {P : Program} {fn : Func} {p q : Tmp} {ty : TypeId} (h : fn.results = #[.cell p ty, .tmp q]) (tmps : Array Value) (w : World) (g : Nat) (t : TypeId) (cs : Array Value) (fr : Nat × Nat) (d : TypeDesc) (u : Value)
    (hp : tmps.getD p undef = .pointer (some ⟨g, 0, none⟩)) (hq : tmps.getD q undef = u) (hg : w.heap[g]? = some (.cells cs t fr))
    (hu : P.underlying ty = some d) (hd : (match d with | .struct _ | .array _ _ => true | _ => false) = true) (hi : (P.info? ty).map (·.size) = some cs.size) :
    (results fn tmps).run P w = .ok (.tuple #[.agg cs, u]) w := by
  have hp' : tmps[p]?.getD undef = .pointer (some ⟨g, 0, none⟩) := by simpa using hp
  have hq' : tmps[q]?.getD undef = u := by simpa using hq
  simp [results, h, hp', hq', asAddr, run_loadVar_row w g t ty cs fr d hg hu hd hi]
theorem endNl_get {l : Bs} : EndNl l ↔ l[l.length - 1]? = some 10 := by unfold EndNl; rw [List.getLast?_eq_getElem?]
theorem last_nl (c : ByteArray) (h0 : 0 < c.size) (hh : c.size - 1 < c.size) : (((c[c.size - 1]'hh).toNat : Int) != 10) = decide (¬ Whole (c.data.toList.take c.size)) := by
  have hl := data_length c
  rw [List.take_of_length_le (by omega)]
  have e1 : c.data.toList[c.size - 1]? = some (c[c.size - 1]'hh) := by
    rw [List.getElem?_eq_getElem (by omega)]; rfl
  have e2 : Whole c.data.toList ↔ c[c.size - 1]'hh = 10 := by
    constructor
    · rintro (h | h)
      · rw [h] at hl; simp at hl; omega
      · rw [endNl_get, hl, e1] at h; exact Option.some.inj h
    · intro h
      exact Or.inr (endNl_get.2 (by rw [hl, e1, h]))
  rw [Bool.eq_iff_iff]
  simp only [bne_iff_ne, ne_eq, decide_eq_true_eq, e2]
  constructor
  · intro h1 h2; exact h1 (by rw [h2]; rfl)
  · intro h1 h2; exact h1 (UInt8.toNat_inj.1 (by have : (c[c.size - 1]'hh).toNat = 10 := by omega
                                                 rw [this]; rfl))
set_option maxRecDepth 100000 in
set_option maxHeartbeats 40000000 in
theorem toUnified_calls (W : World) (fa fb c : ByteArray) (ve : Value) (n : Nat) (es : List BE) (ctx : Nat) (hc : c.size ≤ 1000000) (hes : tot es ≤ 1000000) (hes2 : es.length ≤ 1000000) (hctx : 1 ≤ ctx) (hctx2 : ctx ≤ 8)
    (A : Option Addr) (cap : Nat) (hve : ve = .slice A n cap) (hn0 : n ≠ 0) (hes0 : es ≠ [])
    (hio : InO c.data.toList.length es 0) (hle : ∀ W1, Below W.heap.size W W1 → Calls Tryz.prog 42 #[.string c, ve] W1 fun e w' => LePost W1 c.data.toList es e w') :
    Calls Tryz.prog 31 #[(.string fa), (.string fb), .string c, ve, .int .i64 ctx] W fun e w' => TuPost W c.data.toList ctx es fa fb e w' := by
  have HLE := Aside0.mk hle
  subst hve
  clear hle
  have hb1 : ∀ o1 o2, Below W.heap.size W ((W.alloc o1).alloc o2) := fun o1 o2 => ((Below.refl _ W).alloc (Nat.le_refl _) o1).alloc (by simp) o2
  have HB1 := Aside0.mk hb1
  clear hb1
  have hn1 : ((n : Int) == 0) = false := by simpa using hn0
  have hn2 : decide ((n : Int) = 0) = false := decide_eq_false (by omega)
  go_enter Tryz.func31, Tryz.ntmps31
  go_wp2_with (first
    | (go_at_call 42; refine (HLE.out _ (HB1.out _ _)).mono ?_; rintro e w1 ⟨v, ys, rfl, hl, hr, hb⟩; obtain ⟨AE, cE, rfl⟩ := own_slice hr; have HL := Aside0.mk hl; have HR := Aside0.mk hr; have HB2 := Aside0.mk hb; clear hl hr hb)
    | (go_at_call 33; refine (splitLines_calls c w1 (by omega)).mono ?_; rintro e w2 ⟨vl, vo, rfl, hl, ho, hb⟩; obtain ⟨AL, cL, rfl⟩ := own_slice hl; have HLS := Aside0.mk hl; have HB3 := Aside0.mk hb; clear hl ho hb))
  have HAL := Aside0.mk (lineEd_ok HL.out hio)
  have hyl := lineEd_len HL.out
  have hys : ys ≠ [] := HAL.out.2.2.2 hes0
  obtain ⟨cl, hcl⟩ : ∃ cl, cl = c.data.toList := ⟨_, rfl⟩
  have hcll : cl.length = c.size := by rw [hcl]; exact data_length c
  rw [← hcl] at HL HAL HLS ⊢
  have HCL := Lib.hid hcl
  clear hcl
  have hLn := splitL_length_le cl
  go_loopg [17, 18, 19, 56] ys.length (fun gk v17 v18 v19 v56 wr => ∃ (i : Nat) (st : St), v56 = .int .i64 (i : Int) ∧ v18 = .int .i64 (st.last : Int) ∧ v19 = .int .i64 (st.tl : Int) ∧ i + gk = ys.length ∧ Hid (st = stAt ctx cl ys i) ∧ Aside0 (TuM W wr (W.heap.size + 1) fa fb (splitL cl) ys AE AL cE cL st.H st.h v17))
  case atStart =>
    refine ⟨0, ⟨[], none, 0, 0⟩, rfl, rfl, rfl, by omega, Lib.hid (stAt_zero ctx cl ys).symm, ⟨[], .slice none 0 0, rfl, ?_, rfl, ?_, ?_, ?_, ?_, by omega⟩⟩
    · have hbb := HB2.out.trans (HB3.out.mono HB2.out.size)
      refine ⟨by omega, ?_, ⟨rfl, Or.inl ⟨rfl, rfl⟩⟩, fun x hx => by cases hx⟩
      refine (hbb.block _ (by simp)).trans ?_
      have := new_obj (W.alloc (.cells #[.string ⟨#[]⟩, .string ⟨#[]⟩, .slice none 0 0] 62)) (.cells #[.string fa, .string fb, .slice none 0 0] 62)
      simpa using this
    · exact pw_own_below (HR.out) HB3.out
    · exact own_lower HLS.out (Nat.zero_le _)
    · exact (HB1.out _ _).trans ((HB2.out.trans (HB3.out.mono HB2.out.size)).mono (by simp; omega))
    · refine ((HB2.out.trans (HB3.out.mono HB2.out.size)).block _ (by simp; omega)).trans ?_
      refine (Below.heap_alloc _ _ _ (by simp)).trans ?_
      exact new_obj W _
  case round =>
    obtain ⟨i, st, rfl, rfl, rfl, hik, HS, HT⟩ := hrel
    obtain ⟨wo, rfl⟩ : ∃ wo : World, wo = wr := ⟨_, rfl⟩
    by_cases hlt : i < ys.length
    · obtain ⟨y, hy⟩ : ∃ y, ys[i]? = some y := ⟨_, List.getElem?_eq_getElem hlt⟩
      have hg := rowE_get ys i y hy
      obtain ⟨hs0, vh0, HT0⟩ := HT.out
      obtain ⟨ge, cg, hv, c0, hcap⟩ := own_get HT0.oe _ _ hg.1
      injection hv with hv1 hv2 hv3
      subst hv1 hv3
      obtain ⟨_, _, hv, c1, _⟩ := own_get HT0.oe _ _ hg.2.1
      injection hv with hv1 hv2 hv3
      injection hv1 with hv1
      injection hv1 with hv1
      subst hv1
      clear hv2 hv3
      obtain ⟨_, _, hv, c2, _⟩ := own_get HT0.oe _ _ hg.2.2
      injection hv with hv1 hv2 hv3
      injection hv1 with hv1
      injection hv1 with hv1
      subst hv1
      clear hv2 hv3 hg HT0
      obtain ⟨al1, al2, al3, al4⟩ := al_mid ys 0 i y HAL.out.1 hy
      rw [hcll] at al2
      have hcs := zz_at c hc y.s (ln cl y.s) (by rw [← HCL.out]; exact (ln_cnt al3).symm)
      have hce := zz_at c hc y.e (cnt (cl.take y.e)) (by rw [← HCL.out])
      have HCS := Aside0.mk hcs
      have HCE := Aside0.mk hce
      have AL3 := Aside0.mk al3
      have AL4 := Aside0.mk al4
      clear hcs hce al3 al4
      have b1 : (y.s : Int) ≤ (c.size : Int) := by omega
      have b2 : (y.e : Int) ≤ (c.size : Int) := by omega
      obtain ⟨m, m1, m2, m3, m4, m5⟩ := stAt_bd (ctx := ctx) HAL.out.1 hy
      rw [← HS.out] at m2
      rw [← HS.out] at m3
      have m6 := m2.tl
      have m7 := m2.sz
      have m8 := HAL.out.2.2.1
      have M2 := Aside0.mk m2
      have m9 : ln cl y.s ≤ (splitL cl).length := by omega
      have hLn2 : (splitL cl).length ≤ 1000000 := by omega
      clear m2
      have hcb := cnt_le (cl.take y.e)
      have hcb2 : cnt (cl.take y.e) ≤ 1000000 := by rw [List.length_take] at hcb; omega
      clear hcb
      obtain ⟨bw, hbw⟩ : ∃ b, b = decide (¬ Whole (cl.take y.e)) := ⟨_, rfl⟩
      have HBW := Lib.hid hbw
      clear hbw
      go_upto_region 18 with (first
        | (go_at_call 43; (with_reducible refine (HCS.out _).mono ?_); rintro e w' ⟨rfl, rfl⟩)
        | (go_at_call 43; (with_reducible refine (HCE.out _).mono ?_); rintro e w' ⟨rfl, rfl⟩))
      go_cut [87] (fun v87 wx => v87 = .bool bw ∧ Aside0 (TuM W wx (W.heap.size + 1) fa fb (splitL cl) ys (some ⟨ge, 0, none⟩) AL cE cL st.H st.h u17) ∧ Aside0 (wx.heap[wo.heap.size]? = some (.cells #[.int .i64 (y.s : Int), .int .i64 (y.e : Int), .string (mkS y.new)] 68 (0, 0))))
      case first => as_aux_lemma =>
        -- <1
        by_cases he : y.e = c.size
        · have e1 : ((y.e : Int) == (c.size : Int)) = true := by simp; omega
          have e2 : decide ((y.e : Int) = (c.size : Int)) = true := decide_eq_true (by omega)
          have HE := Lib.hid he
          clear he
          by_cases h0 : 0 < c.size
          · have hln := last_nl c h0 (by omega)
            rw [← HCL.out, show cl.take c.size = cl.take y.e by rw [HE.out]] at hln
            have HLN := Lib.hid hln
            clear hln
            go_wp2_with fail
            go_meet
            case rel => exact ⟨by rw [HBW.out, ← HLN.out], ⟨HT.out.keep (Fr.alloc_ _ _ _)⟩, ⟨new_obj _ _⟩⟩
          · have h1 : decide (0 < c.size) = false := decide_eq_false h0
            go_wp2_with fail
            go_meet
            case rel =>
              have hw : Whole (cl.take y.e) := Or.inl (by rw [HE.out, show c.size = 0 by omega]; rfl)
              exact ⟨by rw [HBW.out, decide_eq_false (not_not_intro hw)], ⟨HT.out.keep (Fr.alloc_ _ _ _)⟩, ⟨new_obj _ _⟩⟩
        · have e1 : ((y.e : Int) == (c.size : Int)) = false := by simp; omega
          have e2 : decide ((y.e : Int) = (c.size : Int)) = false := decide_eq_false (by omega)
          have hw : Whole (cl.take y.e) := by
            rcases AL4.out with h | h
            · exact h
            · rw [hcll] at h; exact absurd h he
          have HW := Aside0.mk hw
          clear hw
          go_wp2_with fail
          go_meet
          case rel => exact ⟨by rw [HBW.out, decide_eq_false (not_not_intro HW.out)], ⟨HT.out.keep (Fr.alloc_ _ _ _)⟩, ⟨new_obj _ _⟩⟩
        -- 1>
      case rest =>
        obtain ⟨rfl, HT2, HY⟩ := hcut
        clear HT
        go_upto_if 87 with fail
        go_cut [23] (fun v23 wx => v23 = .int .i64 (ln cl y.e : Int) ∧ wx = wc)
        case first => as_aux_lemma =>
          -- <2
          cases bw with
          | false =>
            go_wp2_with fail
            go_meet
            case rel =>
              have hw : LS cl y.e := Classical.byContradiction fun h => absurd HBW.out (by rw [decide_eq_true (show ¬ Whole (cl.take y.e) from h)]; decide)
              exact ⟨by rw [ln_cnt hw], rfl⟩
          | true =>
            go_wp2_with fail
            go_meet
            case rel =>
              have hw : ¬ Whole (cl.take y.e) := of_decide_eq_true HBW.out.symm
              refine ⟨?_, rfl⟩
              unfold ln
              rw [cnt_whole, if_neg hw]
              go_num
          -- 2>
        case rest =>
          obtain ⟨rfl, rfl⟩ := hcut
          go_upto_block 2 with fail
          go_cut [17, 19] (fun v17 v19 wx => v19 = .int .i64 ((pre ctx (splitL cl) st (ln cl y.s)).2.2 : Int) ∧ Aside0 (TuM W wx (W.heap.size + 1) fa fb (splitL cl) ys (some ⟨ge, 0, none⟩) AL cE cL (pre ctx (splitL cl) st (ln cl y.s)).1 (some (pre ctx (splitL cl) st (ln cl y.s)).2.1) v17) ∧ Aside0 (wx.heap[wo.heap.size]? = some (.cells #[.int .i64 (y.s : Int), .int .i64 (y.e : Int), .string (mkS y.new)] 68 (0, 0))))
          case first => as_aux_lemma =>
            -- <3
            cases hsh : st.h with
            | none => as_aux_lemma =>
              have hu : u17 = .pointer none := by
                obtain ⟨hs0, vh0, h0⟩ := HT2.out
                have := h0.cu
                rw [hsh] at this
                exact this
              subst hu
              rw [hsh] at HT2
              have hl0 : st.last = 0 := by rw [HS.out] at hsh ⊢; exact stAt_none hsh
              have hl1 : st.last ≤ 0 := by omega
              clear hl0
              have HSH := Lib.hid hsh
              clear hsh
              have HNA := Aside0.mk (HT2.out.newAdd hLn2 (ln cl y.s) st.tl st.last ctx m3 m9 hctx2)
              go_wp2_with (go_at_call 44; refine HNA.out.mono ?_; rintro e w5 ⟨d, rfl, hd, hd2, hT5, hE5, hs5⟩; have hc5 := hT5.cells; have HD := Lib.hid hd; have HT5 := Aside0.mk hT5; have HE5 := Aside0.mk hE5; obtain ⟨q0, q1, q2, q3⟩ := hc5; (rw [show ((ln cl y.s + 1 : Nat) : Int) = (ln cl y.s : Int) + 1 by omega] at q0); (rw [show ((st.tl + (ln cl y.s - st.last) + 1 : Nat) : Int) = (st.tl : Int) + ((ln cl y.s : Int) - (st.last : Int)) + 1 by omega] at q1); clear hd hT5 hE5)
              go_meet
              case rel =>
                rw [pre_none HSH.out]
                have t1 := HT5.out.set_f (ln cl y.s + 1 - d)
                have t2 := t1.set_t (st.tl + (ln cl y.s - st.last) + 1 - d)
                rw [show ((ln cl y.s + 1 - d : Nat) : Int) = (ln cl y.s : Int) + 1 - (d : Int) by omega] at t1 t2
                rw [show ((st.tl + (ln cl y.s - st.last) + 1 - d : Nat) : Int) = (st.tl : Int) + ((ln cl y.s : Int) - (st.last : Int)) + 1 - (d : Int) by omega] at t2
                refine ⟨?_, ⟨?_⟩, ⟨?_⟩⟩
                · show _ = Value.int .i64 ((st.tl + (ln cl y.s - st.last) : Nat) : Int)
                  rw [show ((st.tl + (ln cl y.s - st.last) : Nat) : Int) = (st.tl : Int) + ((ln cl y.s : Int) - (st.last : Int)) by omega]
                · unfold hkNew
                  rw [← HD.out]
                  exact t2
                · exact TuM.pushOf (f := 0) (t := 0) t1 _ _ (TuM.pushOf (f := 0) (t := 0) HT5.out _ _ (HE5.out _ _ HY.out) 0 _) 1 _
            | some k => as_aux_lemma =>
              rw [hsh] at HT2
              obtain ⟨g, v, hu, hk0, _⟩ := HT2.out.push
              clear hk0
              subst hu
              have hkn : k.its.length ≤ 10000000 := by unfold sz at m7; rw [hsh] at m7; dsimp only at m7; omega
              have HSH := Lib.hid hsh
              clear hsh
              by_cases h1 : ln cl y.s = st.last
              · as_aux_lemma =>
                have e1 : ((ln cl y.s : Int) == (st.last : Int)) = true := by simp; omega
                have e2 : decide ((ln cl y.s : Int) = (st.last : Int)) = true := decide_eq_true (by omega)
                have H1 := Lib.hid h1
                clear h1
                go_wp2_with fail
                go_meet
                case rel =>
                  rw [pre_same HSH.out H1.out]
                  exact ⟨rfl, ⟨HT2.out⟩, ⟨HY.out⟩⟩
              · have e1 : ((ln cl y.s : Int) == (st.last : Int)) = false := by simp; omega
                have e2 : decide ((ln cl y.s : Int) = (st.last : Int)) = false := decide_eq_false (by omega)
                by_cases h2 : ln cl y.s ≤ st.last + 2 * ctx
                · as_aux_lemma =>
                  have e3 : ((ln cl y.s : Int) ≤ (st.last : Int) + (ctx : Int) * 2) := by omega
                  have e4 : decide ((ln cl y.s : Int) ≤ (st.last : Int) + (ctx : Int) * 2) = true := decide_eq_true e3
                  have HA := Aside0.mk (HT2.out.add (by omega) (by omega) (st.last : Int) (ln cl y.s) (by omega) (by omega) (by omega))
                  go_wp2_with (go_at_call 44; refine HA.out.mono ?_; rintro e w5 ⟨rfl, hT5, hE5, hs5⟩; have HT5 := Aside0.mk hT5; have HE5 := Aside0.mk hE5; clear hT5 hE5)
                  go_meet
                  case rel =>
                    rw [pre_join HSH.out h1 h2]
                    exact ⟨rfl, ⟨HT5.out⟩, ⟨HE5.out _ _ HY.out⟩⟩
                · as_aux_lemma =>
                  have e3 : ¬ ((ln cl y.s : Int) ≤ (st.last : Int) + (ctx : Int) * 2) := by omega
                  have e4 : decide ((ln cl y.s : Int) ≤ (st.last : Int) + (ctx : Int) * 2) = false := decide_eq_false e3
                  have HA := Aside0.mk (HT2.out.add (by omega) (by omega) (st.last : Int) (st.last + ctx) (by omega) (by omega) (by omega))
                  rw [show ((st.last + ctx : Nat) : Int) = (st.last : Int) + (ctx : Int) by omega] at HA
                  obtain ⟨iP, hiP, hzP0, hzP1, hzP2⟩ := info_parts info_ph
                  have hHn : st.H.length ≤ 1000000 := by have := stAt_H (ctx := ctx) (c := cl) (ys := ys) (i := i) (by omega); rw [← HS.out] at this; omega
                  go_wp2_with (first
                    | (go_at_call 44; (with_reducible refine HA.out.mono ?_); rintro e w5 ⟨rfl, hT5, hE5, hs5⟩; obtain ⟨g2, vh, _, xs, hp, hblk, rfl, hrow, hsz, hne, hfl⟩ := hT5.flush; (obtain rfl : g = g2 := (by injection hp with hp; injection hp with hp; injection hp)); have q5 : w5.cell? ⟨W.heap.size + 1, 2, none⟩ = some vh := (blk_cell hblk 2).trans rfl; have HROW := Aside0.mk hrow; have HFL := Aside0.mk hfl; have HE5 := Aside0.mk hE5; clear hT5 hE5 hp hblk hrow hfl)
                    | (at_builtin; refine wpList_append_lies _ (by rfl) (.tmp 100) (.tmp 102) 60 (by rfl) W.heap.size 86 iP _ 1 8 Tryz.underlying60 hiP hzP0 hzP1 hzP2 (by rfl) (by decide) _ _ _ (by rfl) (own_alloc HROW.out _) ⟨w5.heap.size, 0, none⟩ 1 1 [.pointer (some ⟨g, 0, none⟩)] (by rfl) (by rfl) ?h1 ?h2 ?h25 ?h3 ?h4 ?h5 _ rfl ?_; (case h1 => exact new_cells w5 _ _); (case h2 => intro u hu; simp at hu; subst hu; rfl); (case h25 => decide); (case h3 => unfold maxLen; omega); (case h4 => omega); (case h5 => simp; omega); intro g6 c6 w6 hown hgr _ _; obtain ⟨f1, f2, f3, f4, f5, _, _⟩ := HFL.out w6 (.slice (some ⟨g6, 0, none⟩) (st.H.length + 1) c6) _ hown hgr; have hna := f1.newAdd hLn2 (ln cl y.s) st.tl st.last ctx m3 m9 hctx2; (rw [show (w6.setCell ⟨W.heap.size + 1, 2, none⟩ (.slice (some ⟨g6, 0, none⟩) (st.H.length + 1) c6)).heap.size = w6.heap.size by simp [World.setCell]] at hna); have HNA := Aside0.mk hna; have F2 := Aside0.mk f2; clear hown hgr hna f1 f2)
                    | (go_at_call 44; (with_reducible refine HNA.out.mono ?_); rintro e w7 ⟨d, rfl, hd, hd2, hT7, hE7, hs7⟩; have hc5 := hT7.cells; have HD := Lib.hid hd; have HT7 := Aside0.mk hT7; have HE7 := Aside0.mk hE7; obtain ⟨q0, q1, q2, q3⟩ := hc5; (rw [show ((ln cl y.s + 1 : Nat) : Int) = (ln cl y.s : Int) + 1 by omega] at q0); (rw [show ((st.tl + (ln cl y.s - st.last) + 1 : Nat) : Int) = (st.tl : Int) + ((ln cl y.s : Int) - (st.last : Int)) + 1 by omega] at q1); clear hd hT7 hE7))
                  go_meet
                  case rel =>
                    rw [pre_new HSH.out h1 h2]
                    have t1 := HT7.out.set_f (ln cl y.s + 1 - d)
                    have t2 := t1.set_t (st.tl + (ln cl y.s - st.last) + 1 - d)
                    rw [show ((ln cl y.s + 1 - d : Nat) : Int) = (ln cl y.s : Int) + 1 - (d : Int) by omega] at t1 t2
                    rw [show ((st.tl + (ln cl y.s - st.last) + 1 - d : Nat) : Int) = (st.tl : Int) + ((ln cl y.s : Int) - (st.last : Int)) + 1 - (d : Int) by omega] at t2
                    refine ⟨?_, ⟨?_⟩, ⟨?_⟩⟩
                    · show _ = Value.int .i64 ((st.tl + (ln cl y.s - st.last) : Nat) : Int)
                      rw [show ((st.tl + (ln cl y.s - st.last) : Nat) : Int) = (st.tl : Int) + ((ln cl y.s : Int) - (st.last : Int)) by omega]
                    · unfold hkNew
                      rw [← HD.out]
                      exact t2
                    · exact TuM.pushOf (f := 0) (t := 0) t1 _ _ (TuM.pushOf (f := 0) (t := 0) HT7.out _ _ (HE7.out _ _ (F2.out _ _ (HE5.out _ _ HY.out))) 0 _) 1 _
            -- 3>
          case rest =>
            obtain ⟨rfl, HT3, HY3⟩ := hcut
            clear HT2 HY
            obtain ⟨PH, Pk, Pt, hP⟩ : ∃ PH Pk Pt, pre ctx (splitL cl) st (ln cl y.s) = (PH, Pk, Pt) := ⟨_, _, _, rfl⟩
            have ps := pre_sz (ctx := ctx) (L := splitL cl) m3 m9 m7
            have pt := pre_tl (ctx := ctx) (L := splitL cl) (st := st) (a := ln cl y.s)
            rw [hP] at HT3 ps pt
            have ps2 : Pk.its.length ≤ ln cl y.s + m := ps
            have pt2 : Pt ≤ st.tl + (ln cl y.s - st.last) := pt
            have HPP := Lib.hid hP
            clear hP ps pt
            obtain ⟨g, v, hu, hk0, _⟩ := HT3.out.push
            clear hk0
            subst hu
            rw [HPP.out]
            go_upto_block 3 with fail
            go_cut [18, 25] (fun v18 v25 wx => v18 = .int .i64 (ln cl y.e : Int) ∧ Aside0 (TuM W wx (W.heap.size + 1) fa fb (splitL cl) ys (some ⟨ge, 0, none⟩) AL cE cL PH (some (hkAdd Pk (dels (splitL cl) (ln cl y.s) (ln cl y.e)))) (.pointer (some ⟨g, 0, none⟩))) ∧ Aside0 (EdB wx wo.heap.size y))
            case first =>
              -- <4
              go_wp2_with fail
              go_loopg [18, 25] (ln cl y.e - ln cl y.s) (fun gk v18 v25 wx => ∃ n : Nat, v25 = .int .i64 (n : Int) ∧ v18 = .int .i64 (n : Int) ∧ ln cl y.s ≤ n ∧ n + gk = ln cl y.e ∧ Aside0 (TuM W wx (W.heap.size + 1) fa fb (splitL cl) ys (some ⟨ge, 0, none⟩) AL cE cL PH (some (hkAdd Pk (dels (splitL cl) (ln cl y.s) n))) (.pointer (some ⟨g, 0, none⟩))) ∧ Aside0 (EdB wx wo.heap.size y))
              case atStart => exact ⟨ln cl y.s, rfl, rfl, Nat.le_refl _, by omega, ⟨by rw [dels_nil, hkAdd_nil]; exact HT3.out⟩, ⟨HY3.out⟩⟩
              case round =>
                obtain ⟨n2, rfl, rfl, r1, r2, HT4, HE4⟩ := hrel
                by_cases hlt2 : n2 < ln cl y.e
                · obtain ⟨v', c2', f2', hrow, hgne, hgs, hBg, hop⟩ := HT4.out.opens
                  obtain ⟨gl, hAL, hcl2⟩ := HT4.out.line (i := n2) (by omega)
                  subst hAL
                  have HOP := Aside0.mk hop
                  have HROW := Aside0.mk hrow
                  have hil : (hkAdd Pk (dels (splitL cl) (ln cl y.s) n2)).its.length ≤ 10000000 := by
                    unfold hkAdd
                    rw [List.length_append, dels_length (by omega)]
                    omega
                  have b3 : (0 : Int) ≤ (n2 : Int) := by omega
                  have b4 : (n2 : Int) < ((splitL cl).length : Int) := by omega
                  obtain ⟨iS, hiS, hzS0, hzS1, hzS2⟩ := info_parts info_line
                  clear hop hrow
                  go_wp2_with fail
                  go_region_law
                    ((refine step_append_lies _ (by rfl) _ _ _ (by rfl) W.heap.size 94 iS _ 2 24 Tryz.underlying89 hiS hzS0 hzS1 hzS2 rfl (by omega) v' _ _ (by rfl) ((HROW.out.alloc _).drew)
                        ⟨wr.heap.size, 0, none⟩ 1 1 [.int .i64 0, .string (mkS (splitL cl)[n2])] (by rfl) (by rfl) (World.news_of_block (cs := #[.int .i64 0, .string (mkS (splitL cl)[n2])]) (t := 94) (fr := (0, 0)) (heap_alloc_new wr _)) (by simp [Value.oneCell'])
                        (by omega) (by unfold maxLen; omega) (by omega) (by simp; omega) (wr.heap.size + 1) (by simp) ?_; intro gg cap2 w1 hown1 hgrow hat hlt1; have c3 := cell_after hgrow c2' hgne; have f3 := frz_after hgrow f2' hgs hgne))
                  all_goals
                    have HG1 := Aside0.mk hgrow
                    have HO1 := Aside0.mk hown1
                    clear hgrow hown1 c3 f3
                    go_wp2_with fail
                    go_roundg (ln cl y.e - n2 - 1)
                    case rel =>
                      obtain ⟨z1, z2, _⟩ := HOP.out w1 gg cap2 _ 0 _ HG1.out HO1.out hat
                      rw [hkAdd_add, ← dels_succ r1 (by omega)] at z1
                      exact ⟨n2 + 1, by go_num, by go_num, by omega, by omega, ⟨z1⟩, ⟨z2 _ _ HE4.out⟩⟩
                    case measure => omega
                · obtain rfl : n2 = ln cl y.e := by omega
                  go_wp2_with fail
                  go_meet
                  case rel => exact ⟨rfl, HT4, HE4⟩
              -- 4>
            case rest => as_aux_lemma =>
              obtain ⟨rfl, HT4, HE4⟩ := hcut
              clear HT3 HY3
              have q2 : wc.cell? ⟨wo.heap.size, 2, none⟩ = some (.string (mkS y.new)) := (blk_cell HE4.out 2).trans rfl
              have hst : stAt ctx cl ys (i + 1) = ⟨PH, some (hkAdd (hkAdd Pk (dels (splitL cl) (ln cl y.s) (ln cl y.e))) (inss (splitL y.new))), ln cl y.e, Pt + (splitL y.new).length⟩ := by
                rw [stAt_succ ctx cl ys i y hy, ← HS.out]
                unfold Uni.step
                rw [show (toLE cl y).a = ln cl y.s from rfl, HPP.out]
                rfl
              have HST := Lib.hid hst
              clear hst
              by_cases hnew : y.new = []
              · as_aux_lemma =>
                have h1 : (mkS y.new).toList = [] := by rw [toList_data, mkS_toList, hnew]
                have h2 : (mkS y.new).toList.isEmpty = true := by rw [h1]; rfl
                have HNW := Lib.hid hnew
                clear hnew
                go_wp2_with fail
                go_roundg (ys.length - i - 1)
                case rel =>
                  rw [HNW.out] at HST
                  have h5 := HST.out
                  simp only [show splitL ([] : Bs) = [] from rfl, inss, List.map_nil, hkAdd_nil, List.length_nil, Nat.add_zero] at h5
                  exact ⟨i + 1, ⟨PH, some (hkAdd Pk (dels (splitL cl) (ln cl y.s) (ln cl y.e))), ln cl y.e, Pt⟩, by go_num, rfl, rfl, by omega, Lib.hid h5.symm, ⟨HT4.out⟩⟩
                case measure => omega
              · as_aux_lemma =>
                have h1 : (mkS y.new).toList ≠ [] := by rw [toList_data, mkS_toList]; exact hnew
                have h2 : (mkS y.new).toList.isEmpty = false := by rw [toList_data, mkS_toList]; cases hh : y.new with
                  | nil => exact absurd hh hnew
                  | cons a t => rfl
                have hnl : y.new.length ≤ tot ys := mem_tot ys y (List.mem_of_getElem? hy)
                have hsp := splitLines_calls (mkS y.new) wc (by rw [mkS_size]; omega)
                have hs2 := splitL_length_le y.new
                have HSP := Aside0.mk hsp
                clear hsp hnew
                go_wp2_with (go_at_call 33; refine HSP.out.mono ?_; rintro e w5 ⟨vn, vo2, rfl, hl5, ho5, hb5⟩; (rw [mkS_toList] at hl5); obtain ⟨AN, cN, rfl⟩ := own_slice hl5; have HN := Aside0.mk hl5; have HB5 := Aside0.mk hb5; clear hl5 ho5 hb5)
                have HT5 := Aside0.mk (HT4.out.keep (Fr.of_below HB5.out _))
                go_loopg [19, 196] (splitL y.new).length (fun gk v19 v196 wx => ∃ n2 : Nat, v196 = .int .i64 (n2 : Int) ∧ v19 = .int .i64 ((Pt : Int) + (n2 : Int)) ∧ n2 + gk = (splitL y.new).length ∧ Aside0 (TuM W wx (W.heap.size + 1) fa fb (splitL cl) ys (some ⟨ge, 0, none⟩) AL cE cL PH (some (hkAdd (hkAdd Pk (dels (splitL cl) (ln cl y.s) (ln cl y.e))) (inss ((splitL y.new).take n2)))) (.pointer (some ⟨g, 0, none⟩))) ∧ Aside0 (wx.ownsRow wc.heap.size 9 1 (.slice AN (splitL y.new).length cN) (splitL y.new).length (rowS (splitL y.new))))
                case atStart => exact ⟨0, rfl, by go_num, by omega, ⟨by rw [show inss ((splitL y.new).take 0) = [] from rfl, hkAdd_nil]; exact HT5.out⟩, ⟨HN.out⟩⟩
                case round => as_aux_lemma =>
                  -- <5
                  obtain ⟨n2, rfl, rfl, r2, HT6, HN6⟩ := hrel
                  by_cases hlt2 : n2 < (splitL y.new).length
                  · obtain ⟨v', c2', f2', hrow, hgne, hgs, hBg, hop⟩ := HT6.out.opens
                    obtain ⟨gl, cl2, hv, hcl2, _⟩ := own_get HN6.out n2 _ (rowS_get hlt2)
                    injection hv with hv1 hv2 hv3
                    subst hv1 hv3
                    clear hv2
                    have HOP := Aside0.mk hop
                    have HROW := Aside0.mk hrow
                    have hil : (hkAdd (hkAdd Pk (dels (splitL cl) (ln cl y.s) (ln cl y.e))) (inss ((splitL y.new).take n2))).its.length ≤ 10000000 := by
                      unfold hkAdd
                      rw [List.length_append, List.length_append, dels_length (by omega)]
                      simp only [inss, List.length_map, List.length_take]
                      omega
                    have b3 : (0 : Int) ≤ (n2 : Int) := by omega
                    have b4 : (n2 : Int) < ((splitL y.new).length : Int) := by omega
                    obtain ⟨iS, hiS, hzS0, hzS1, hzS2⟩ := info_parts info_line
                    clear hop hrow
                    go_wp2_with (at_builtin; refine wpList_append_lies _ (by rfl) (.tmp 204) (.tmp 207) 89 (by rfl) W.heap.size 94 iS _ 2 24 Tryz.underlying89 hiS hzS0 hzS1 hzS2 (by rfl) (by decide) _ _ _ (by rfl) (own_alloc HROW.out _) ⟨wr.heap.size, 0, none⟩ 1 1 [.int .i64 1, .string (mkS (splitL y.new)[n2])] (by rfl) (by rfl) ?h1 ?h2 ?h25 ?h3 ?h4 ?h5 _ rfl ?_; (case h1 => exact new_cells wr _ _); (case h2 => intro u hu; simp at hu; rcases hu with rfl | rfl <;> rfl); (case h25 => decide); (case h3 => unfold maxLen; omega); (case h4 => omega); (case h5 => simp; omega); intro gg cap2 w1 hown1 hgrow hat hlt1; have c3 := cell_after (gr_drew hgrow) c2' hgne; have f3 := frz_after (gr_drew hgrow) f2' hgs hgne; have HG1 := Aside0.mk hgrow; have HO1 := Aside0.mk hown1; have HAT := Aside0.mk hat; clear hgrow hown1 hat)
                    go_roundg ((splitL y.new).length - n2 - 1)
                    case rel =>
                      have hat := HAT.out
                      simp at hat
                      obtain ⟨z1, z2, z3⟩ := HOP.out w1 gg cap2 _ 1 _ (gr_drew HG1.out) HO1.out hat
                      rw [hkAdd_add (hkAdd Pk (dels (splitL cl) (ln cl y.s) (ln cl y.e))) (inss ((splitL y.new).take n2)), ← inss_succ hlt2] at z1
                      exact ⟨n2 + 1, by go_num, by go_num, by omega, ⟨z1⟩, ⟨z3 _ _ _ _ HN6.out⟩⟩
                    case measure => omega
                  · obtain rfl : n2 = (splitL y.new).length := by omega
                    rw [List.take_length] at HT6
                    go_wp2_with fail
                    go_roundg (ys.length - i - 1)
                    case rel => exact ⟨i + 1, _, by go_num, rfl, by go_num, by omega, Lib.hid HST.out.symm, ⟨HT6.out⟩⟩
                    case measure => omega
                  -- 5>
    · obtain rfl : i = ys.length := by omega
      cases hsh : st.h with
      | none =>
        exfalso
        have := stAt_none2 (ctx := ctx) (c := cl) (ys := ys) (by rw [← HS.out]; exact hsh)
        exact hys this
      | some k => as_aux_lemma =>
        obtain ⟨m, m1, m2⟩ := stAt_bd_end (ctx := ctx) HAL.out.1
        rw [← HS.out] at m2
        have m6 := m2.last
        have m7 := m2.sz
        have m8 := HAL.out.2.2.1
        rw [hsh] at HT
        obtain ⟨g, v, hu, hk0, _⟩ := HT.out.push
        clear hk0 m2
        subst hu
        have hkn : k.its.length ≤ 10000000 := by unfold sz at m7; rw [hsh] at m7; dsimp only at m7; omega
        have hHn : st.H.length ≤ 1000000 := by have := stAt_H (ctx := ctx) (c := cl) (ys := ys) (Nat.le_refl _); rw [← HS.out] at this; omega
        have HSH := Lib.hid hsh
        clear hsh
        have HA := Aside0.mk (HT.out.add (by omega) (by omega) (st.last : Int) (st.last + ctx) (by omega) (by omega) (by omega))
        rw [show ((st.last + ctx : Nat) : Int) = (st.last : Int) + (ctx : Int) by omega] at HA
        obtain ⟨iP, hiP, hzP0, hzP1, hzP2⟩ := info_parts info_ph
        go_wp2_with (first
          | (go_at_call 44; (with_reducible refine HA.out.mono ?_); rintro e w5 ⟨rfl, hT5, hE5, hs5⟩; obtain ⟨g2, vh, _, xs, hp, hblk, rfl, hrow, hsz, hne, hfl⟩ := hT5.flush; (obtain rfl : g = g2 := (by injection hp with hp; injection hp with hp; injection hp)); have q5 : w5.cell? ⟨W.heap.size + 1, 2, none⟩ = some vh := (blk_cell hblk 2).trans rfl; have HROW := Aside0.mk hrow; have HFL := Aside0.mk hfl; clear hT5 hE5 hp hblk hrow hfl)
          | (at_builtin; refine wpList_append_lies _ (by rfl) (.tmp 225) (.tmp 227) 60 (by rfl) W.heap.size 86 iP _ 1 8 Tryz.underlying60 hiP hzP0 hzP1 hzP2 (by rfl) (by decide) _ _ _ (by rfl) (own_alloc HROW.out _) ⟨w5.heap.size, 0, none⟩ 1 1 [.pointer (some ⟨g, 0, none⟩)] (by rfl) (by rfl) ?h1 ?h2 ?h25 ?h3 ?h4 ?h5 _ rfl ?_; (case h1 => exact new_cells w5 _ _); (case h2 => intro u hu; simp at hu; subst hu; rfl); (case h25 => decide); (case h3 => unfold maxLen; omega); (case h4 => omega); (case h5 => simp; omega); intro g6 c6 w6 hown hgr _ _; obtain ⟨f1, f2, f3, f4, f5, f6, f7⟩ := HFL.out w6 (.slice (some ⟨g6, 0, none⟩) (st.H.length + 1) c6) _ hown hgr; have u0 := blk_cell f6 0; have u1 := blk_cell f6 1; have r0 := blk_cell f7 0; have r1 := blk_cell f7 1; have r2 := blk_cell f7 2; have z0 := blk_frozen f7 0; have z1 := blk_frozen f7 1; have z2 := blk_frozen f7 2; have F6 := Aside0.mk f6; have F7 := Aside0.mk f7; clear f6 f7; (simp at u0 u1 r0 r1 r2); have F1 := Aside0.mk f1; clear hown hgr f1 f2))
        have a0 : (w6.setCell ⟨W.heap.size + 1, 2, none⟩ (.slice (some ⟨g6, 0, none⟩) (st.H.length + 1) c6)).heap[W.heap.size]? = some (.cells #[.string ⟨#[]⟩, .string ⟨#[]⟩, .slice none 0 0] 62 (0, 0)) := (Below.heap_setCell w6 _ _ _ (by simp)).trans F7.out
        have a3 := blk_set (blk_set (blk_set a0 0 (.string fa)) 1 (.string fb)) 2 (.slice (some ⟨g6, 0, none⟩) (st.H.length + 1) c6)
        refine bodyPost_ret (results_two rfl _ _ W.heap.size 62 #[.string fa, .string fb, .slice (some ⟨g6, 0, none⟩) (st.H.length + 1) c6] (0, 0) _ .nilIface rfl rfl a3 Tryz.underlying62 rfl (by kernel_rfl)) rfl ?_
        obtain ⟨hs, vh', e1, e2, e3, e4, e5, e6⟩ := F1.out.ends
        have e7 := blk_set F6.out 2 (.slice (some ⟨g6, 0, none⟩) (st.H.length + 1) c6)
        rw [e7] at e2
        obtain rfl : (.slice (some ⟨g6, 0, none⟩) (st.H.length + 1) c6) = vh' := by
          injection e2 with e2
          injection e2 with e2
          simpa using e2
        have hf : ∀ w : World, Fr w (((w.setCell ⟨W.heap.size, 0, none⟩ (.string fa)).setCell ⟨W.heap.size, 1, none⟩ (.string fb)).setCell ⟨W.heap.size, 2, none⟩ (.slice (some ⟨g6, 0, none⟩) (st.H.length + 1) c6)) (fun k => k = W.heap.size) := fun w =>
          Fr.then_ (Fr.then_ (Fr.set_ w ⟨W.heap.size, 0, none⟩ _) (Fr.set_ _ ⟨W.heap.size, 1, none⟩ _) (fun k hk => Or.inl hk)) (Fr.set_ _ ⟨W.heap.size, 2, none⟩ _) (fun k hk => Or.inl hk)
        rw [← HCL.out]
        refine ⟨_, hs, ys, rfl, HL.out, own_fr e4 (hf _) ?_, fun x hx => (e5 x hx).fr (hf _) ?_ ?_, ?_, e6.trans ((hf _).below e6.size (fun k hk => by omega))⟩
        · rintro b hb rfl
          exact own_ne_blk e4 a0 (by decide) hb
        · intro he
          have := (e5 x hx).blk
          rw [he, a0] at this
          injection this with this
          injection this with _ ht
          exact absurd ht (by decide)
        · rintro b hb rfl
          exact own_ne_blk (e5 x hx).row a0 (by decide) hb
        · rw [e1, ← HS.out]
          unfold fin
          rw [HSH.out]
          rfl
end Go.Proofs.YtonajgipkpnpoaaGreatDoor.Un
namespace Go.Proofs.YtonajgipkpnpoaaGreatDoor.Un
open Go.RowKit Go.Proofs.YtonajgipkpnpoaaGreatDoorW.PrintWords Go.Proofs.YtonajgipkpnpoaaGreatDoorW.PrintLast Go.Proofs.YtonajgipkpnpoaaGreatDoorW.PrintMore Go.Uni
open Go.Proofs.YtonajgipkpnpoaaGreatDoor.PLnN
set_option linter.unusedVariables false
set_option linter.unusedSimpArgs false
theorem linesOf_loop (s : ByteArray) (hs : s.size ≤ 1099511627776) : ∀ (n f i k : Nat), s.size - i = n → n < k → f ≤ i → i ≤ s.size → Whole (s.data.toList.take f) → NoNl (btw s.data.toList f i) →
    spec_LinesOf.l0 k s ((splitL (s.data.toList.take f)).map mkS) (f : Int) (s.size : Int) (i : Int) = some ((splitL s.data.toList).map mkS)
  | 0, f, i, k + 1, hn, hk, hf, hi, hw, hno => by
    have hl := data_length s
    obtain rfl : i = s.size := by omega
    have hlen := splitL_length_le (s.data.toList.take f)
    rw [List.length_take] at hlen
    unfold spec_LinesOf.l0
    rw [if_neg (by omega)]
    by_cases hfs : f < s.size
    · rw [if_pos (by omega), if_pos (by omega), if_pos (by omega), if_pos (by rw [List.length_map]; omega)]
      have h1 : splitL s.data.toList = splitL (s.data.toList.take f) ++ [s.data.toList.drop f] := by
        rw [lp_split (p := f) (Or.inl hw)]
        congr 1
        have h2 : btw s.data.toList f s.size = s.data.toList.drop f := by
          unfold btw; rw [List.take_of_length_le (by omega)]
        rw [h2] at hno
        exact splitL_rest _ hno (by intro h3; have := congrArg List.length h3; rw [List.length_drop] at this; simp at this; omega)
      rw [h1, List.map_append, Int.toNat_natCast, ext_mkS, List.take_of_length_le (i := s.size) (l := s.data.toList) (by omega)]
      rfl
    · rw [if_neg (by omega)]
      rw [List.take_of_length_le (by omega)]
  | n + 1, f, i, k + 1, hn, hk, hf, hi, hw, hno => by
    have hl := data_length s
    have hi2 : i < s.data.toList.length := by omega
    have hlen := splitL_length_le (s.data.toList.take f)
    rw [List.length_take] at hlen
    have e1 : wrap64 ((i : Int) + 1) = ((i + 1 : Nat) : Int) := by rw [Rd.w64 (by omega) (by omega)]; omega
    unfold spec_LinesOf.l0
    rw [if_pos (by omega), if_pos (by omega), if_pos (by omega), Rd.bt_get s i hi2, e1]
    by_cases hc : s.data.toList[i] = 10
    · have hc2 : ((s.data.toList[i].toNat : Nat) : Int) = 10 := by rw [hc]; rfl
      obtain ⟨h1, h2⟩ := split_to hf hi2 hw hno hc
      rw [if_pos hc2, if_pos (by omega), if_pos (by omega), if_pos (by omega), if_pos (by rw [List.length_map]; omega), Int.toNat_natCast, Int.toNat_natCast, ext_mkS]
      have h3 : (splitL (s.data.toList.take f)).map mkS ++ [mkS ((s.data.toList.take (i + 1)).drop f)] = (splitL (s.data.toList.take (i + 1))).map mkS := by
        rw [h1, List.map_append]; rfl
      rw [h3]
      refine linesOf_loop s hs n (i + 1) (i + 1) k (by omega) (by omega) (Nat.le_refl _) (by omega) h2 ?_
      unfold btw
      rw [List.drop_eq_nil_of_le (by rw [List.length_take]; omega)]
      intro c h; cases h
    · have hc2 : ¬ ((s.data.toList[i].toNat : Nat) : Int) = 10 := by
        intro h
        apply hc
        have h5 : s.data.toList[i].toNat = 10 := by omega
        exact UInt8.toNat_inj.1 h5
      rw [if_neg hc2]
      refine linesOf_loop s hs n f (i + 1) k (by omega) (by omega) (by omega) (by omega) hw ?_
      rw [btw_snoc hf hi2]
      intro c h
      rcases List.mem_append.1 h with h | h
      · exact hno c h
      · rw [List.mem_singleton.1 h]; exact hc
theorem linesOf_ev (s : ByteArray) (hs : s.size ≤ 1099511627776) (k : Nat) (hk : s.size < k) : spec_LinesOf.f k s = some ((splitL s.data.toList).map mkS) := by
  unfold spec_LinesOf.f
  have := linesOf_loop s hs s.size 0 0 k rfl hk (Nat.le_refl _) (Nat.zero_le _) (by rw [List.take_zero]; exact whole_nil) (by unfold btw; simp; intro c h; cases h)
  rw [List.take_zero] at this
  exact this
theorem own_of_R {w : World} {base : Nat} {ok : Nat → Prop} {v : Value} {L : List Bs} (h : Kd.R Kd.string 9 w base ok v (L.map mkS)) : w.ownsRow base 9 1 v L.length (rowS L) := by
  obtain ⟨_, inner, ho, hr⟩ := h
  have hl : inner = rowS L := by
    apply List.ext_getElem?
    intro j
    rcases Nat.lt_or_ge j L.length with hj | hj
    · have h1 := hr.2 j (mkS L[j]) (by rw [List.getElem?_map, List.getElem?_eq_getElem hj]; rfl)
      have h2 : (inner.drop (j * 1)).take 1 = [.string (mkS L[j])] := h1
      have h3 : inner[j]? = ((inner.drop (j * 1)).take 1)[0]? := by simp
      rw [h3, h2, rowS_get hj]; rfl
    · have h1 := hr.1
      rw [List.length_map] at h1
      rw [List.getElem?_eq_none (by show inner.length ≤ j; rw [h1]; show L.length * 1 ≤ j; omega), List.getElem?_eq_none (by rw [rowS_length]; exact hj)]
  rw [hl, List.length_map] at ho
  exact ho
end Go.Proofs.YtonajgipkpnpoaaGreatDoor.Un
