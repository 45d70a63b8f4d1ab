/- Unified: the unified form of the differences by lines; what a reader makes of it. Around, Label, TooLong: what the laws ask besides. The laws FnUnifiedAround and FnUnifiedReads. -/
import Derived.Test.YtonajgipkpnpoaaGreatDoorC26
import Derived.Test.YtonajgipkpnpoaaGreatDoorC30
import Derived.Test.YtonajgipkpnpoaaGreatDoorC31
namespace Go.Proofs.YtonajgipkpnpoaaGreatDoor.Un
open Go.RowKit Go.Sort Go.Sst Go.Proofs.YtonajgipkpnpoaaGreatDoorW.PrintWords Go.Uni
open Go.Proofs.YtonajgipkpnpoaaGreatDoor.SortM Go.Proofs.YtonajgipkpnpoaaGreatDoor.SortU
open Go.Proofs.YtonajgipkpnpoaaGreatDoor.Gr (lines_any LnPost)
set_option linter.unusedVariables false
theorem inO_pw {c : Nat} : ∀ (es : List BE) (p : Nat), InO c es p → (∀ y ∈ es, p ≤ y.s ∧ y.s ≤ y.e ∧ y.e ≤ c) ∧ es.Pairwise (fun x y => x.e ≤ y.s)
  | [], p, h => ⟨fun y hy => by simp at hy, List.Pairwise.nil⟩
  | e :: t, p, ⟨h1, h2, h3, h4⟩ => by
    obtain ⟨k1, k2⟩ := inO_pw t e.e h4
    refine ⟨fun y hy => ?_, List.pairwise_cons.2 ⟨fun y hy => (k1 y hy).1, k2⟩⟩
    rcases List.mem_cons.1 hy with rfl | hy
    · exact ⟨h1, h2, h3⟩
    · have := k1 y hy; omega
theorem sortE_id {es : List BE} {c p : Nat} (h : InO c es p) : sortE (es.map bE) = es.map bE := by
  obtain ⟨h1, h2⟩ := inO_pw es p h
  have := sorted_is (es.map bE).toArray (es.map bE).toArray (Go.Sst.StabIn.refl _ _ _) (fun i j _ hij hj => by
    have hj' : j < es.length := by simpa using hj
    have hi' : i < es.length := by omega
    rw [getElem!_pos _ i (by simpa using hi'), getElem!_pos _ j (by simpa using hj')]
    simp only [List.getElem_toArray, List.getElem_map]
    have h3 := List.pairwise_iff_getElem.1 h2 i j hi' hj' hij
    have h4 := h1 es[i] (List.getElem_mem hi')
    have h5 := h1 es[j] (List.getElem_mem hj')
    unfold SortM.lt bE
    simp only [Bool.or_eq_false_iff, decide_eq_false_iff_not, Bool.and_eq_false_iff]
    refine ⟨by omega, ?_⟩
    by_cases e : es[j].s = es[i].s
    · right; omega
    · left; simp; omega)
  simpa using this.symm
structure Difs (a b : ByteArray) (es : List BE) : Prop where
  eds : Eds a es es
  chg : ∀ e ∈ es, Chg e
  app : app a.data.toList es 0 = b.data.toList
theorem Difs.of {A B : List Bs} {a b : ByteArray} {es : List BE} (h : DfOk A B 0 0 es) (hA : A.flatten = a.data.toList) (hB : B.flatten = b.data.toList) (ha : a.size ≤ 1000000) (hb : b.size ≤ 1000000) (hl : es.length ≤ 1000000) : Difs a b es := by
  have hio : InO a.data.toList.length es 0 := by have := h.io; rw [hA, off_zero] at this; exact this
  have ht := h.tot
  rw [List.drop_zero, hB, data_length] at ht
  refine ⟨⟨ha, rfl, hl, by omega, fun y hy => ?_, sortE_id hio, hio⟩, h.chg, ?_⟩
  · have := (inO_pw es 0 hio).1 y hy
    rw [data_length] at this
    omega
  · have := h.app
    rw [hA, off_zero, List.drop_zero, hB] at this
    exact this
theorem read_all {fa fb a b : ByteArray} {es : List BE} {ctx : Nat} {U : ByteArray} (hctx : 1 ≤ ctx) (hd : Difs a b es) (hfa : fa.size ≤ 1000000) (hfb : fb.size ≤ 1000000) (hU : formU fa fb a.data.toList ctx es U) (W : World) :
    Calls Tryz.prog 8 #[.string U, .string fa, .string fb, .string a] W fun e w' => ∃ H, ReadPost W b H e w' ∧ H.length ≤ 1000000 ∧ ∀ h ∈ H, arH ctx (splitL a.data.toList).length h ∧ (fromC h.its = 0 → h.f = 1) ∧ h.f ≤ 4000000 ∧ fromC h.its ≤ 1000000000 := by
  have h := hd.eds
  have happ := hd.app
  have hcl : a.data.toList.length ≤ 1000000 := by rw [data_length]; exact h.c6
  rcases hU with ⟨rfl, rfl⟩ | ⟨ys', hne, hL, rfl⟩
  · have hab : a = b := by
      rw [← mkS_of a, ← mkS_of b, ← happ]
      show _ = mkS (a.data.toList.drop 0)
      rw [List.drop_zero]
    subst hab
    exact (read_nil W fa fb a).mono fun e w' hp => ⟨[], hp, Nat.zero_le _, fun h hh => by simp at hh⟩
  · have ht := lineEd_tells hctx hL h.io hne hcl h.tot h.l6
    have hal := (lineEd_ok hL h.io).1
    have har := around_of (ctx := ctx) hal (lineEd_chg hL h.io hd.chg)
    obtain ⟨D, ACC, h1, h2, h3, h4⟩ := ht.run
    have hs := ht.size
    have hn : (rNames fa.data.toList fb.data.toList).length = fa.data.toList.length + fb.data.toList.length + 10 := by unfold rNames; simp only [List.length_append, List.length_cons, List.length_nil]; omega
    have ha2 := data_length fa
    have hb2 := data_length fb
    have hol := ht.ol
    have hne' := ended_ne h3
    have halen := len_flat (L := ACC) (fun l hl => hne' l (by simp [hl]))
    have haf : ACC.flatten.length ≤ (app a.data.toList es 0).length := by rw [← h4, List.flatten_append, List.length_append]; omega
    have hr := read_calls W (mkS (rNames fa.data.toList fb.data.toList ++ rHks (fin ctx (splitL a.data.toList) (stAt ctx a.data.toList ys' ys'.length)))) fa fb a _ D 4000000 ACC (mkS_toList _) (by rw [mkS_size, List.length_append]; omega) (by omega) (by omega) (by have := h.c6; omega) ht.ne ht.good (by omega) ht.its h1 h2 h3 (by omega) (by have := ht.len; omega) (by rw [h4]; omega)
    refine hr.mono fun e w' hp => ⟨_, ?_, ht.len, fun x hx => ⟨har x hx, good_from (ht.good x hx), (ht.good x hx).fm, Nat.le_trans (fromC_le' _) (ht.its x hx)⟩⟩
    rw [h4, happ, mkS_of] at hp
    exact hp
def UnPost (W : World) (fa fb a b : ByteArray) (e : Ending) (w' : World) : Prop :=
  ∃ U es, e = .returned (.string U) ∧ Difs a b es ∧ formU fa fb a.data.toList 3 es U ∧ Below W.heap.size W w'
theorem lines_difs {W : World} {a b : ByteArray} {e : Ending} {w' : World} (hab : a.size + b.size ≤ 1000000) (h : LnPost W a.data.toList b.data.toList e w') : ∃ A cap es, e = .returned (.slice A es.length cap) ∧ Difs a b es ∧ w'.ownsRow W.heap.size 68 3 (.slice A es.length cap) es.length (rowE es) ∧ Below W.heap.size W w' := by
  obtain ⟨A, cap, es, h1, h2, h3, h4, h5, h6⟩ := h
  have e1 := splitL_length_le a.data.toList
  have e2 := splitL_length_le b.data.toList
  rw [data_length] at e1 e2
  exact ⟨A, cap, es, h1, Difs.of h2 (flatten_splitL _) (flatten_splitL _) (by omega) (by omega) (by omega), h5, h6⟩
set_option maxRecDepth 100000 in
theorem unified_any (W : World) (fa fb a b : ByteArray) (hfa : fa.size ≤ 1000000) (hfb : fb.size ≤ 1000000) (hab : a.size + b.size ≤ 1000000) (ht : Tab W) :
    Calls Tryz.prog 21 #[.string fa, .string fb, .string a, .string b] W fun e w' => UnPost W fa fb a b e w' := by
  have hl := (lines_any W a b (by omega) (by omega)).mono fun e w' h => lines_difs hab h
  have hto : ∀ W1 A1 c1 es, Below W.heap.size W W1 → Difs a b es → W1.ownsRow 0 68 3 (.slice A1 es.length c1) es.length (rowE es) → Calls Tryz.prog 23 #[(.string fa), (.string fb), .string a, .slice A1 es.length c1, .int .i64 3] W1 fun e w' => ToPost W1 fa fb a.data.toList 3 es .nilIface e w' := fun W1 A1 c1 es hb hd ho =>
    toU_calls W1 fa fb a A1 c1 es es 3 (by omega) (by omega) hd.eds hfa hfb (ht.stay hb (Nat.le_refl _)) ho
  have HTO := Aside0.mk hto
  clear hto ht
  go_enter Tryz.func21, Tryz.ntmps21
  go_wp2_with (first
    | (go_at_call 26; go_loud (refine hl.mono ?_; rintro e w1 ⟨A1, c1, es, rfl, hd, ho, hb1⟩; have HD := Aside0.mk hd; have HOW := Aside0.mk (own_lower ho (Nat.zero_le _)); have HB1 := Aside0.mk hb1; clear hd ho hb1))
    | (go_at_call 23; go_loud (refine (HTO.out _ _ _ _ HB1.out HD.out HOW.out).mono ?_; rintro e w2 ⟨U, rfl, hf, hb2⟩; have HF := Aside0.mk hf; have HB2 := Aside0.mk hb2; clear hf hb2)))
  go_ret
  exact ⟨U, es, rfl, HD.out, HF.out, HB1.out.trans (HB2.out.mono HB1.out.size)⟩
set_option maxRecDepth 100000 in
theorem implUn_any (W : World) (fa fb a b : ByteArray) (hfa : fa.size ≤ 1000000) (hfb : fb.size ≤ 1000000) (hab : a.size + b.size ≤ 1000000) (ht : Tab W) :
    Calls Tryz.prog 9 #[.string fa, .string fb, .string a, .string b] W fun e w' => UnPost W fa fb a b e w' := by
  have hu := unified_any W fa fb a b hfa hfb hab ht
  clear ht
  go_enter Tryz.func9, Tryz.ntmps9
  go_wp2_with (go_at_call 21; go_loud (refine hu.mono ?_; rintro e w1 ⟨U, es, rfl, h1, h2, h3⟩; have H1 := Aside0.mk h1; have H2 := Aside0.mk h2; have H3 := Aside0.mk h3; clear h1 h2 h3))
  go_ret
  exact ⟨U, es, rfl, H1.out, H2.out, H3.out⟩
end Go.Proofs.YtonajgipkpnpoaaGreatDoor.Un
namespace Go.Proofs.YtonajgipkpnpoaaGreatDoor.Un
open Go.RowKit Go.Proofs.YtonajgipkpnpoaaGreatDoorW.PrintWords Go.Uni
set_option linter.unusedVariables false
set_option maxRecDepth 100000 in
theorem place_any (W : World) (s c : Int) (hs : -1099511627776 ≤ s ∧ s ≤ 1099511627776) :
    Calls Tryz.prog 22 #[.int .i64 s, .int .i64 c] W fun e w' => e = .returned (.int .i64 (if c = 0 then s else s - 1)) ∧ W = w' := by
  by_cases hc : c = 0
  · rw [if_pos hc]
    subst hc
    go_enter Tryz.func22, Tryz.ntmps22
    go_wp2
    go_ret
    exact ⟨rfl, rfl⟩
  · rw [if_neg hc]
    have h1 : (c == 0) = false := by simpa using hc
    clear hc
    go_enter Tryz.func22, Tryz.ntmps22
    go_wp2
    go_ret
    exact ⟨rfl, rfl⟩
set_option maxRecDepth 100000 in
theorem context_any (W : World) : Calls Tryz.prog 10 #[] W fun e w' => e = .returned (.int .i64 3) ∧ W = w' := by
  go_enter Tryz.func10, Tryz.ntmps10
  go_wp2
  go_ret
  exact ⟨rfl, rfl⟩
set_option maxRecDepth 100000 in
theorem tooLong_any (W : World) (g c : Nat) (ls : List Nat) (hc : ∀ (j n : Nat), ls[j]? = some n → W.cell? ⟨g, j, none⟩ = some (.int .i64 (n : Int))) (hl : ls.length ≤ 1000) (hn : ∀ n ∈ ls, n ≤ 4611686018427387904) :
    Calls Tryz.prog 7 #[.slice (some ⟨g, 0, none⟩) ls.length c] W fun e w' => ∃ b : Bool, e = .returned (.bool b) ∧ (b = false → ls.sum ≤ 1000000) ∧ W = w' := by
  have HC := Aside0.mk hc
  have HN := Aside0.mk hn
  clear hc hn
  go_enter Tryz.func7, Tryz.ntmps7
  go_wp2
  go_loopw [3, 8] (fun v3 v8 wr => ∃ i sm : Nat, v3 = .int .i64 sm ∧ v8 = .int .i64 i ∧ i ≤ ls.length ∧ sm ≤ 1000000 ∧ Hid ((ls.take i).sum = sm) ∧ W = wr) (fun _ v8 _ => ls.length - (intOf v8).toNat)
  case atStart => exact ⟨0, 0, rfl, rfl, Nat.zero_le _, Nat.zero_le _, Lib.hid rfl, rfl⟩
  case round =>
    obtain ⟨i, sm, rfl, rfl, hi, hsm, HS, rfl⟩ := hrel
    by_cases hlt : i < ls.length
    · obtain ⟨n, hn⟩ : ∃ n, ls[i]? = some n := ⟨_, List.getElem?_eq_getElem hlt⟩
      have c0 := HC.out i n hn
      have b0 := HN.out n (List.mem_of_getElem? hn)
      have hts : (ls.take (i + 1)).sum = (ls.take i).sum + n := by
        rw [List.take_succ_eq_append_getElem hlt, List.sum_append]
        have := (List.getElem?_eq_some_iff.1 hn).2
        simp [this]
      have HTS := Lib.hid hts
      clear hn hts
      by_cases hg : (n : Int) > 1000000 - (sm : Int)
      · go_wp2
        go_ret
        exact ⟨true, rfl, (fun h => by cases h), rfl⟩
      · go_wp2
        go_roundw
        case rel => exact ⟨i + 1, sm + n, by go_num, by go_num, by omega, by omega, Lib.hid (by rw [HTS.out, HS.out]), by trivial⟩
        case measure => simp [intOf]; omega
    · obtain rfl : i = ls.length := by omega
      go_wp2
      go_ret
      exact ⟨false, rfl, (fun _ => by have := HS.out; rw [List.take_length] at this; omega), rfl⟩
open Classical in
noncomputable def labB (s : ByteArray) : Bool := decide (∀ i (h : i < s.size), ((s[i]'h).toNat : Int) ≠ 10)
set_option maxRecDepth 100000 in
theorem label_any (W : World) (s : ByteArray) (hs : s.size ≤ 4611686018427387904) :
    Calls Tryz.prog 13 #[.string s] W fun e w' => e = .returned (.bool (labB s)) ∧ W = w' := by
  go_enter Tryz.func13, Tryz.ntmps13
  go_wp2
  go_loopw [6] (fun v6 wr => ∃ i : Nat, v6 = .int .i64 i ∧ i ≤ s.size ∧ Aside0 (∀ j (h : j < s.size), j < i → ((s[j]'h).toNat : Int) ≠ 10) ∧ W = wr) (fun v6 _ => s.size - (intOf v6).toNat)
  case atStart => exact ⟨0, rfl, Nat.zero_le _, ⟨fun j _ h => by omega⟩, rfl⟩
  case round =>
    obtain ⟨i, rfl, hi, HL, rfl⟩ := hrel
    by_cases hlt : i < s.size
    · by_cases hb : ((s[i]'hlt).toNat : Int) = 10
      · have hb1 : (((s[i]'hlt).toNat : Int) == 10) = true := by simpa using hb
        have HB := Aside0.mk hb
        clear hb
        go_wp2
        go_ret
        refine ⟨?_, rfl⟩
        unfold labB
        rw [decide_eq_false (fun h => h i hlt HB.out)]
        rfl
      · have hb1 : (((s[i]'hlt).toNat : Int) == 10) = false := by simpa using hb
        have HB := Aside0.mk hb
        clear hb
        go_wp2
        go_roundw
        case rel => exact ⟨i + 1, by go_num, by omega, ⟨fun j h hj => by
          by_cases e : j = i
          · subst e; exact HB.out
          · exact HL.out j h (by omega)⟩, by trivial⟩
        case measure => simp [intOf]; omega
    · go_wp2
      go_ret
      refine ⟨?_, rfl⟩
      unfold labB
      rw [decide_eq_true (fun j h => HL.out j h (by omega))]
      rfl
theorem rowH_at : ∀ (L : List HB) (i : Nat) (x : HB), L[i]? = some x → ∀ j u, (hbB x)[j]? = some u → (rowH L)[i * 6 + j]? = some u
  | [], i, d, h, j, u, hu => by simp at h
  | a :: t, 0, d, h, j, u, hu => by
    simp at h; subst h
    have hj : j < 6 := by have := (List.getElem?_eq_some_iff.1 hu).1; simpa [hbB, hkB] using this
    rw [show rowH (a :: t) = hbB a ++ rowH t by simp [rowH], Nat.zero_mul, Nat.zero_add, List.getElem?_append_left (by simpa [hbB, hkB] using hj)]
    exact hu
  | a :: t, i + 1, d, h, j, u, hu => by
    have := rowH_at t i d (by simpa using h) j u hu
    rw [show rowH (a :: t) = hbB a ++ rowH t by simp [rowH], List.getElem?_append_right (by simp [hbB, hkB]; omega), show (i + 1) * 6 + j - (hbB a).length = i * 6 + j by simp [hbB, hkB]; omega]
    exact this
set_option maxRecDepth 100000 in
theorem around_any (W : World) (B : Nat) (v : Value) (L : List HB) (ctx n : Nat) (hctx : ctx ≤ 8) (hn : n ≤ 1000000000) (h : W.ownsRow B 46 6 v L.length (rowH L)) (hL : L.length ≤ 1000000000)
    (hx : ∀ x ∈ L, x.f = (if fromC x.h.its = 0 then 0 else (x.h.f : Int))) (har : ∀ x ∈ L, arH ctx n x.h ∧ (fromC x.h.its = 0 → x.h.f = 1) ∧ x.h.f ≤ 4000000 ∧ fromC x.h.its ≤ 1000000000) :
    Calls Tryz.prog 11 #[v, .int .i64 ctx, .int .i64 n] W fun e w' => e = .returned (.bool true) ∧ Below W.heap.size W w' := by
  obtain ⟨A, cap, rfl⟩ := own_slice h
  have H := Aside0.mk h
  have HX := Aside0.mk hx
  have HAR := Aside0.mk har
  clear h hx har
  go_enter Tryz.func11, Tryz.ntmps11
  go_wp2
  go_loopw [12] (fun v12 wr => ∃ i : Nat, v12 = .int .i64 i ∧ i ≤ L.length ∧ Aside0 (Below W.heap.size W wr)) (fun v12 _ => L.length - (intOf v12).toNat)
  case atStart => exact ⟨0, rfl, Nat.zero_le _, ⟨Below.refl _ _⟩⟩
  case round =>
    obtain ⟨i, rfl, hi, HB⟩ := hrel
    by_cases hlt : i < L.length
    · obtain ⟨x, hxi⟩ : ∃ x, L[i]? = some x := ⟨_, List.getElem?_eq_getElem hlt⟩
      obtain ⟨g, rfl⟩ : ∃ g, A = some ⟨g, 0, none⟩ := by
        rcases H.out.2 with ⟨_, h1⟩ | ⟨g, cap', cur, hv, _⟩
        · omega
        · injection hv with hv
          exact ⟨g, hv⟩
      have hw := pw_own_below H.out HB.out
      have hg := rowH_at L i x hxi
      obtain ⟨k0, -⟩ := Gr.own_at hw _ _ (hg 0 _ rfl)
      obtain ⟨k1, -⟩ := Gr.own_at hw _ _ (hg 1 _ rfl)
      obtain ⟨k2, -⟩ := Gr.own_at hw _ _ (hg 2 _ rfl)
      obtain ⟨k3, -⟩ := Gr.own_at hw _ _ (hg 3 _ rfl)
      obtain ⟨k4, -⟩ := Gr.own_at hw _ _ (hg 4 _ rfl)
      obtain ⟨k5, -⟩ := Gr.own_at hw _ _ (hg 5 _ rfl)
      rw [Nat.add_zero] at k0
      have hf := HX.out x (List.mem_of_getElem? hxi)
      obtain ⟨⟨a1, a2, a3⟩, a4, a5, a6⟩ := HAR.out x (List.mem_of_getElem? hxi)
      dsimp only at k0 k1 k2 k3 k4 k5
      generalize hh1 : (ht x.h.its (0, 0, false)).1 = hd at k4 a1
      generalize hh2 : (ht x.h.its (0, 0, false)).2.1 = tl at k5 a2
      generalize hh3 : fromC x.h.its = fc at k1 hf a2 a4 a6
      generalize hh4 : x.f = xf at k0 hf
      obtain ⟨p, hp⟩ : ∃ p : Int, p = (if (fc : Int) = 0 then xf else xf - 1) := ⟨_, rfl⟩
      have hxf : 0 ≤ xf ∧ xf ≤ 4000000 := by rw [hf]; split <;> omega
      have hpl := fun w => place_any w xf fc ⟨by omega, by omega⟩
      rw [← hp] at hpl
      have hp2 : p = (x.h.f : Int) - 1 := by
        rw [hp, hf]
        by_cases e : fc = 0
        · have := a4 e; rw [if_pos (by omega), if_pos e]; omega
        · rw [if_neg (by omega), if_neg e]
      have q1 : hd = ctx ∨ (hd < ctx ∧ p = 0) := by omega
      have q2 : tl = ctx ∨ (tl < ctx ∧ p + fc = n) := by omega
      have bp : 0 ≤ p ∧ p ≤ 4000000 := by omega
      have HBA := fun o => (⟨below_alloc HB.out o⟩ : Aside0 _)
      clear hw hg hxi hf a1 a2 a3 a4 hh1 hh2 hh3 hh4 hp hp2
      rcases q1 with rfl | ⟨q1, rfl⟩
      · rcases q2 with rfl | ⟨q2, q3⟩
        · go_wp2_with (go_at_call 22; refine (hpl _).mono ?_; rintro e w' ⟨rfl, rfl⟩)
          go_roundw
          case rel => exact ⟨i + 1, by go_num, by omega, HBA _⟩
          case measure => simp [intOf]; omega
        · have t1 : ((tl : Int) != (hd : Int)) = true := by simp; omega
          have t2 : (p + (fc : Int) != (n : Int)) = false := by simpa using q3
          go_wp2_with (go_at_call 22; refine (hpl _).mono ?_; rintro e w' ⟨rfl, rfl⟩)
          go_roundw
          case rel => exact ⟨i + 1, by go_num, by omega, HBA _⟩
          case measure => simp [intOf]; omega
      · have t0 : ((hd : Int) != (ctx : Int)) = true := by simp; omega
        rcases q2 with rfl | ⟨q2, q3⟩
        · go_wp2_with (go_at_call 22; refine (hpl _).mono ?_; rintro e w' ⟨rfl, rfl⟩)
          go_roundw
          case rel => exact ⟨i + 1, by go_num, by omega, HBA _⟩
          case measure => simp [intOf]; omega
        · have t1 : ((tl : Int) != (ctx : Int)) = true := by simp; omega
          have t2 : ((0 : Int) + (fc : Int) != (n : Int)) = false := by simpa using q3
          have t3 : ((fc : Int) != (n : Int)) = false := by simpa using q3
          go_wp2_with (go_at_call 22; refine (hpl _).mono ?_; rintro e w' ⟨rfl, rfl⟩)
          go_roundw
          case rel => exact ⟨i + 1, by go_num, by omega, HBA _⟩
          case measure => simp [intOf]; omega
    · go_wp2
      go_ret
      exact ⟨rfl, HB.out⟩
end Go.Proofs.YtonajgipkpnpoaaGreatDoor.Un
namespace Go.Proofs.YtonajgipkpnpoaaGreatDoor.Un
open Go.RowKit Go.Sort Go.Sst Go.Proofs.YtonajgipkpnpoaaGreatDoorW.PrintWords Go.Proofs.YtonajgipkpnpoaaGreatDoorW.PrintLast Go.Proofs.YtonajgipkpnpoaaGreatDoorW.PrintMore Go.Uni
set_option linter.unusedVariables false
def LawPost (W : World) (e : Ending) (w' : World) : Prop := e = .returned (.bool true) ∧ Below W.heap.size W w'
theorem lines_len (s : ByteArray) (hs : s.size ≤ 1000000) (W : World) : Calls Tryz.prog 12 #[.string s] W fun e w' => ∃ A c, e = .returned (.slice A (splitL s.data.toList).length c) ∧ Below W.heap.size W w' := by
  refine (PLnN.spec_LinesOf.calls _ _ _ _ (linesOf_ev s (by omega) (s.size + 1) (by omega))).mono ?_
  rintro e w0 ⟨v0, rfl, hR, hb⟩
  have ho := own_of_R hR
  obtain ⟨A, c, rfl⟩ := own_slice ho
  exact ⟨A, c, by simp, hb⟩
theorem lit_cells (W : World) (ls : List Nat) : ∀ (j n : Nat), ls[j]? = some n → (W.alloc (.cells (ls.map fun (n : Nat) => Value.int .i64 (n : Int)).toArray 3)).cell? ⟨W.heap.size, j, none⟩ = some (.int .i64 (n : Int)) := fun j n h => by
  rw [blk_cell (new_obj W _), List.getElem?_toArray, List.getElem?_map, h]
  rfl
set_option maxRecDepth 100000 in
set_option maxHeartbeats 2000000 in
theorem law5 (W : World) (a b : ByteArray) (ht : Tab W) :
    Calls Tryz.prog 3 #[.string a, .string b] W (LawPost W) := by
  by_cases h0 : (a.size : Int) > 2147483647
  · clear ht
    go_enter Tryz.func3, Tryz.ntmps3
    go_wp2_with fail
    go_ret
    exact ⟨rfl, Below.refl _ _⟩
  by_cases h1 : (b.size : Int) > 2147483647
  · clear ht
    go_enter Tryz.func3, Tryz.ntmps3
    go_wp2_with fail
    go_ret
    exact ⟨rfl, Below.refl _ _⟩
  have htl := tooLong_any (W.alloc (.cells #[.int .i64 (a.size : Int), .int .i64 (b.size : Int)] 3)) W.heap.size 2 [a.size, b.size] (lit_cells W [a.size, b.size]) (by simp) (by intro n hn; simp at hn; omega)
  have HT := Aside0.mk ht
  clear ht
  go_enter Tryz.func3, Tryz.ntmps3
  go_upto_if 21 with (go_at_call 7; go_loud (refine htl.mono ?_; rintro e w1 ⟨bb, rfl, hbb, rfl⟩; have HBB := Lib.hid hbb; clear hbb))
  have hb1 : Below W.heap.size W (W.alloc (.cells #[.int .i64 (a.size : Int), .int .i64 (b.size : Int)] 3)) := below_alloc (Below.refl _ _) _
  have HB1 := Aside0.mk hb1
  clear hb1 htl
  cases bb with
  | true =>
    go_wp2_with fail
    go_ret
    exact ⟨rfl, HB1.out⟩
  | false =>
    have hsum := HBB.out rfl
    simp only [List.sum_cons, List.sum_nil] at hsum
    clear HBB
    have hun := implUn_any (W.alloc (.cells #[.int .i64 (a.size : Int), .int .i64 (b.size : Int)] 3)) ⟨#[97]⟩ ⟨#[98]⟩ a b (by decide) (by decide) (by omega) (HT.out.stay HB1.out (Nat.le_refl _))
    have HCX := Aside0.mk context_any
    have HLL := Aside0.mk (lines_len a (by omega))
    have hsl := splitL_length_le a.data.toList
    rw [data_length] at hsl
    go_wp2_with (first
      | (go_at_call 9; go_loud (refine hun.mono ?_; rintro e w2 ⟨U, es, rfl, hd, hU, hb2⟩; have HD := Aside0.mk hd; have HU := Aside0.mk hU; have HB2 := Aside0.mk (HB1.out.trans (hb2.mono HB1.out.size)); clear hd hU hb2))
      | (go_at_call 8; go_loud (refine (read_all (ctx := 3) (by omega) HD.out (by decide) (by decide) HU.out _).mono ?_; rintro e w3 ⟨H, ⟨v, L, rfl, hLm, hx, ho, hb3⟩, hHl, har⟩; have HLEN : Hid (L.length ≤ 1000000000) := Lib.hid (by rw [← hLm, List.length_map] at hHl; omega); have HLM := Lib.hid hLm; have HX := Aside0.mk hx; have HOW := Aside0.mk ho; have HAR := Aside0.mk har; have HB3 := Aside0.mk (HB2.out.trans (hb3.mono HB2.out.size)); clear hLm hx ho har hb3 hHl))
      | (go_at_call 10; go_loud (refine (HCX.out _).mono ?_; rintro e w' ⟨rfl, rfl⟩))
      | (go_at_call 12; go_loud (refine (HLL.out _).mono ?_; rintro e w4 ⟨AL, cL, rfl, hb4⟩; have HB4 := Aside0.mk (HB3.out.trans (hb4.mono HB3.out.size)); have HOW4 := Aside0.mk (pw_own_below HOW.out hb4); clear hb4))
      | (go_at_call 11; go_loud (refine (around_any _ _ v L 3 _ (by omega) (by omega) HOW4.out HLEN.out HX.out (fun x hx => HAR.out x.h (by rw [← HLM.out]; exact List.mem_map_of_mem hx))).mono ?_; rintro e w5 ⟨rfl, hb5⟩; have HB5 := Aside0.mk (HB4.out.trans (hb5.mono HB4.out.size)); clear hb5)))
    go_ret
    exact ⟨rfl, HB5.out⟩
set_option maxRecDepth 100000 in
set_option maxHeartbeats 2000000 in
theorem law6 (W : World) (fa fb a b : ByteArray) (ht : Tab W) :
    Calls Tryz.prog 4 #[.string fa, .string fb, .string a, .string b] W (LawPost W) := by
  by_cases h0 : (fa.size : Int) > 2147483647
  · clear ht
    go_enter Tryz.func4, Tryz.ntmps4
    go_wp2_with fail
    go_ret
    exact ⟨rfl, Below.refl _ _⟩
  by_cases h1 : (fb.size : Int) > 2147483647
  · clear ht
    go_enter Tryz.func4, Tryz.ntmps4
    go_wp2_with fail
    go_ret
    exact ⟨rfl, Below.refl _ _⟩
  by_cases h2 : (a.size : Int) > 2147483647
  · clear ht
    go_enter Tryz.func4, Tryz.ntmps4
    go_wp2_with fail
    go_ret
    exact ⟨rfl, Below.refl _ _⟩
  by_cases h3 : (b.size : Int) > 2147483647
  · clear ht
    go_enter Tryz.func4, Tryz.ntmps4
    go_wp2_with fail
    go_ret
    exact ⟨rfl, Below.refl _ _⟩
  have htl := tooLong_any (W.alloc (.cells #[.int .i64 (fa.size : Int), .int .i64 (fb.size : Int), .int .i64 (a.size : Int), .int .i64 (b.size : Int)] 3)) W.heap.size 4 [fa.size, fb.size, a.size, b.size] (lit_cells W [fa.size, fb.size, a.size, b.size]) (by simp) (by intro n hn; simp at hn; omega)
  have HT := Aside0.mk ht
  clear ht
  go_enter Tryz.func4, Tryz.ntmps4
  go_upto_if 40 with (go_at_call 7; go_loud (refine htl.mono ?_; rintro e w1 ⟨bb, rfl, hbb, rfl⟩; have HBB := Lib.hid hbb; clear hbb))
  have hb1 : Below W.heap.size W (W.alloc (.cells #[.int .i64 (fa.size : Int), .int .i64 (fb.size : Int), .int .i64 (a.size : Int), .int .i64 (b.size : Int)] 3)) := below_alloc (Below.refl _ _) _
  have HB1 := Aside0.mk hb1
  clear hb1 htl
  cases bb with
  | true =>
    go_wp2_with fail
    go_ret
    exact ⟨rfl, HB1.out⟩
  | false =>
    have hsum := HBB.out rfl
    simp only [List.sum_cons, List.sum_nil] at hsum
    clear HBB
    have hun := implUn_any (W.alloc (.cells #[.int .i64 (fa.size : Int), .int .i64 (fb.size : Int), .int .i64 (a.size : Int), .int .i64 (b.size : Int)] 3)) fa fb a b (by omega) (by omega) (by omega) (HT.out.stay HB1.out (Nat.le_refl _))
    have HCX := Aside0.mk context_any
    have HLA := Aside0.mk (fun w => label_any w fa (by omega))
    have HLB := Aside0.mk (fun w => label_any w fb (by omega))
    have e1 : fa.size ≤ 1000000 := by omega
    have e2 : fb.size ≤ 1000000 := by omega
    go_upto_region 6 with (first
      | (go_at_call 9; go_loud (refine hun.mono ?_; rintro e w2 ⟨U, es, rfl, hd, hU, hb2⟩; have HD := Aside0.mk hd; have HU := Aside0.mk hU; have HB2 := Aside0.mk (HB1.out.trans (hb2.mono HB1.out.size)); clear hd hU hb2))
      | (go_at_call 8; go_loud (refine (read_all (ctx := 3) (by omega) HD.out e1 e2 HU.out _).mono ?_; rintro e w3 ⟨H, ⟨v, L, rfl, _, _, _, hb3⟩, _⟩; have HB3 := Aside0.mk (HB2.out.trans (hb3.mono HB2.out.size)); clear hb3)))
    go_cut [12] from 54 to 59 (fun v12 wx => ∃ l : Bool, v12 = .bool l ∧ w3 = wx)
    case first =>
      have hl1 := HLA.out w3
      have hl2 := HLB.out w3
      generalize labB fa = l1 at hl1
      generalize labB fb = l2 at hl2
      cases l1 with
      | false =>
        go_wp2_with (go_at_call 13; refine hl1.mono ?_; rintro e w' ⟨rfl, rfl⟩)
        go_meet
        exact ⟨false, rfl, rfl⟩
      | true =>
        go_wp2_with (go_at_call 13; first | (with_reducible_and_instances refine hl1.mono ?_; rintro e w' ⟨rfl, rfl⟩) | (with_reducible_and_instances refine hl2.mono ?_; rintro e w' ⟨rfl, rfl⟩))
        go_meet
        exact ⟨l2, rfl, rfl⟩
    case rest =>
      obtain ⟨l, rfl, rfl⟩ := hcut
      cases l with
      | false =>
        go_wp2_with (go_at_call 10; refine (HCX.out _).mono ?_; rintro e w' ⟨rfl, rfl⟩)
        go_ret
        exact ⟨rfl, HB3.out⟩
      | true =>
        go_wp2_with (go_at_call 10; refine (HCX.out _).mono ?_; rintro e w' ⟨rfl, rfl⟩)
        go_ret
        exact ⟨rfl, HB3.out⟩
end Go.Proofs.YtonajgipkpnpoaaGreatDoor.Un
