/- Lines of a text: zzCount, splitLines. -/
import Derived.Test.YtonajgipkpnpoaaGreatDoorC10
import Derived.Test.YtonajgipkpnpoaaGreatDoorC01
import Derived.Lib.OthersKept
import Derived.Lib.DecodeN
import Derived.Lib.Hide
import Derived.IntWalk
import Derived.Outline
import Derived.WalkSpells
namespace Go.Proofs.YtonajgipkpnpoaaGreatDoor.Un
open Go.RowKit Go.Proofs.YtonajgipkpnpoaaGreatDoorW.PrintWords Go.Proofs.YtonajgipkpnpoaaGreatDoorW.PrintLast Go.Proofs.YtonajgipkpnpoaaGreatDoorW.PrintMore Go.Uni
set_option linter.unusedVariables false
set_option linter.unusedSimpArgs false
def mkS (l : Bs) : ByteArray := ⟨l.toArray⟩
theorem mkS_toList (l : Bs) : (mkS l).data.toList = l := by simp [mkS]
theorem mkS_of (s : ByteArray) : mkS s.data.toList = s := by simp [mkS]
theorem mkS_size (l : Bs) : (mkS l).size = l.length := by simp [mkS, ByteArray.size]
theorem toList_data (s : ByteArray) : s.toList = s.data.toList := ByteArray.toList_eq s
theorem ext_toList (s : ByteArray) (i j : Nat) : (s.extract i j).data.toList = (s.data.toList.take j).drop i := by
  rw [ByteArray.data_extract, Array.toList_extract, List.extract_eq_take_drop, List.drop_take]
theorem ext_mkS (s : ByteArray) (i j : Nat) : s.extract i j = mkS ((s.data.toList.take j).drop i) := by
  rw [← ext_toList, mkS_of]
theorem cnt_take_succ {l : Bs} {k : Nat} (h : k < l.length) : cnt (l.take (k + 1)) = cnt (l.take k) + (if l[k] = 10 then 1 else 0) := by
  rw [List.take_succ_eq_append_getElem h, cnt_append]
  congr 1
  by_cases hc : l[k] = 10 <;> simp [cnt, hc]
theorem cnt_le (l : Bs) : cnt l ≤ l.length := by unfold cnt; exact List.length_filter_le _ _
theorem one_byte (s : ByteArray) (k : Nat) (h : k < s.data.toList.length) : (s.extract k (k + 1)).data.toList = [s.data.toList[k]] := by
  rw [ext_toList, List.drop_take, show k + 1 - k = 1 by omega, List.drop_eq_getElem_cons h]
  simp
set_option maxRecDepth 100000 in
theorem zzCount_nl (s : ByteArray) (w : World) (hs : s.size ≤ 4611686018427387904) :
    Calls Tryz.prog 43 #[.string s, .string ⟨#[10]⟩] w fun e w' => e = .returned (.int .i64 (cnt s.data.toList)) ∧ w = w' := by
  have hlen : s.data.toList.length = s.size := data_length s
  go_enter Tryz.func43, Tryz.ntmps43
  go_wp2_with fail
  go_loop [5, 6] (fun n i => ∃ k : Nat, k ≤ s.size ∧ i = .int .i64 k ∧ n = .int .i64 (cnt (s.data.toList.take k))) (fun _ i => s.size - (intOf i).toNat)
  case atStart => exact ⟨0, Nat.zero_le _, rfl, rfl⟩
  case round =>
    obtain ⟨k, hk, rfl, rfl⟩ := hrel
    have hc0 := cnt_le (s.data.toList.take k)
    rw [List.length_take] at hc0
    by_cases hlt : k < s.size
    · have hl2 : k < s.data.toList.length := by omega
      have hone := one_byte s k hl2
      have hsu := cnt_take_succ hl2
      have HSU := Lib.hid hsu
      clear hsu
      by_cases hc : s.data.toList[k] = 10
      · rw [hc] at hone
        have hb : ((s.extract k (k + 1)).toList == [10]) = true := by rw [toList_data, hone]; rfl
        rw [if_pos hc] at HSU
        clear hc hone
        go_wp2_with fail
        go_round
        case rel => exact ⟨k + 1, by omega, by go_num, by rw [HSU.out]; go_num⟩
        case measure => simp [intOf]; omega
      · have hb : ((s.extract k (k + 1)).toList == [10]) = false := by rw [toList_data, hone]; simpa using hc
        rw [if_neg hc] at HSU
        clear hc hone
        go_wp2_with fail
        go_round
        case rel => exact ⟨k + 1, by omega, by go_num, by rw [HSU.out]; go_num⟩
        case measure => simp [intOf]; omega
    · go_wp2_with fail
      go_ret
      exact ⟨by rw [List.take_of_length_le (by omega)]; rfl, rfl⟩
def rowS (ls : List Bs) : List Value := ls.map fun l => Value.string (mkS l)
theorem rowS_length (ls : List Bs) : (rowS ls).length = ls.length := by simp [rowS]
theorem rowS_append (a b : List Bs) : rowS (a ++ b) = rowS a ++ rowS b := by simp [rowS]
def rowN (ls : List Nat) : List Value := ls.map fun (n : Nat) => Value.int .i64 (n : Int)
theorem rowN_append (a b : List Nat) : rowN (a ++ b) = rowN a ++ rowN b := by simp [rowN]
def offs : List Bs → Nat → List Nat
  | [], o => [o]
  | l :: t, o => o :: offs t (o + l.length)
theorem offs_snoc : ∀ (ls : List Bs) (l : Bs) (o : Nat), offs (ls ++ [l]) o = offs ls o ++ [o + ls.flatten.length + l.length]
  | [], l, o => by simp [offs]
  | k :: t, l, o => by
    have ih := offs_snoc t l (o + k.length)
    simp only [List.cons_append, offs, ih, List.flatten_cons, List.length_append]
    rw [show o + k.length + t.flatten.length + l.length = o + (k.length + t.flatten.length) + l.length by omega]
theorem own_iter {w : World} {base : Nat} {e : TypeId} {size n : Nat} {v : Value} {xs : List Value} (h : w.ownsRow base e size v n xs) {k : Nat} {s : ByteArray} {pos : Nat} (hk : w.heap[k]? = some (.stringIter s pos)) (pos' : Nat) : (w.iterAt k s pos').ownsRow base e size v n xs := by
  refine ⟨h.1, ?_⟩
  rcases h.2 with h2 | ⟨g, cap, cur, hv, hb, hg, r⟩
  · exact Or.inl h2
  · have hne : g ≠ k := by
      rintro rfl
      rw [hk] at hg; cases hg
    exact Or.inr ⟨g, cap, cur, hv, hb, by rw [Lib.iterAt_other _ _ _ _ _ hne]; exact hg, r⟩
theorem decN_nl (n b0 b1 b2 b3 : Nat) : ((Lib.decodeN n b0 b1 b2 b3).1 = 10 ↔ b0 = 10) ∧ 1 ≤ (Lib.decodeN n b0 b1 b2 b3).2 ∧ (Lib.decodeN n b0 b1 b2 b3).2 ≤ 4 ∧ (b0 = 10 → (Lib.decodeN n b0 b1 b2 b3).2 = 1) ∧ (2 ≤ (Lib.decodeN n b0 b1 b2 b3).2 → 1 < n ∧ b1 ≠ 10) ∧ (3 ≤ (Lib.decodeN n b0 b1 b2 b3).2 → 2 < n ∧ b2 ≠ 10) ∧ (4 ≤ (Lib.decodeN n b0 b1 b2 b3).2 → 3 < n ∧ b3 ≠ 10) := by
  unfold Lib.decodeN
  repeat' split
  all_goals (dsimp only; omega)
theorem get_toNat (s : ByteArray) (i : Nat) (h : i < s.size) : (s.get! i).toNat = (s.data.toList[i]'(by rw [data_length]; exact h)).toNat := by
  have h2 : i < s.data.size := h
  have : s.get! i = s.data[i]! := rfl
  rw [this, getElem!_pos s.data i h2]
  simp
theorem rune_nl (s : ByteArray) (i : Nat) (h : i < s.size) : ((Utf8.decode s i).1 = 10 ↔ s.data.toList[i]'(by rw [data_length]; exact h) = 10) ∧ 1 ≤ (Utf8.decode s i).2 ∧ i + (Utf8.decode s i).2 ≤ s.size ∧ (s.data.toList[i]'(by rw [data_length]; exact h) = 10 → (Utf8.decode s i).2 = 1) ∧ (s.data.toList[i]'(by rw [data_length]; exact h) ≠ 10 → NoNl (btw s.data.toList i (i + (Utf8.decode s i).2))) := by
  have hl := data_length s
  obtain ⟨d1, d2, d3, d4, d5, d6, d7⟩ := decN_nl (s.size - i) (s.get! i).toNat (s.get! (i + 1)).toNat (s.get! (i + 2)).toNat (s.get! (i + 3)).toNat
  rw [← Lib.decode_at] at d1 d2 d3 d4 d5 d6 d7
  rw [get_toNat s i h] at d1 d4
  have e10 : ∀ c : UInt8, c.toNat = 10 ↔ c = 10 := fun c => ⟨fun h => UInt8.toNat_inj.1 h, fun h => by rw [h]; rfl⟩
  rw [e10] at d1 d4
  refine ⟨d1, d2, by omega, d4, fun hne => ?_⟩
  intro c hc
  unfold btw at hc
  rw [List.drop_take, show i + (Utf8.decode s i).2 - i = (Utf8.decode s i).2 by omega] at hc
  obtain ⟨j, hj, rfl⟩ := List.mem_iff_getElem.1 hc
  rw [List.length_take, List.length_drop] at hj
  rw [List.getElem_take, List.getElem_drop]
  have hj4 : j < 4 := by omega
  have hj2 : j < (Utf8.decode s i).2 := by omega
  match j, hj4 with
  | 0, _ => exact hne
  | 1, _ =>
    have := d5 (by omega)
    rw [get_toNat s (i + 1) (by omega)] at this
    exact fun h => this.2 ((e10 _).2 h)
  | 2, _ =>
    have := d6 (by omega)
    rw [get_toNat s (i + 2) (by omega)] at this
    exact fun h => this.2 ((e10 _).2 h)
  | 3, _ =>
    have := d7 (by omega)
    rw [get_toNat s (i + 3) (by omega)] at this
    exact fun h => this.2 ((e10 _).2 h)
theorem info_string : (Tryz.prog.info? 9).map (fun i => (i.zero, i.size, i.bytes)) = some (some (.string ⟨#[]⟩), 1, 16) := by kernel_rfl
theorem info_int : (Tryz.prog.info? 3).map (fun i => (i.zero, i.size, i.bytes)) = some (some (.int .i64 0), 1, 8) := by kernel_rfl
def SplPost (s : ByteArray) (W : World) (e : Ending) (w' : World) : Prop :=
  ∃ v u, e = .returned (.tuple #[v, u]) ∧ w'.ownsRow W.heap.size 9 1 v (splitL s.data.toList).length (rowS (splitL s.data.toList)) ∧ w'.ownsRow W.heap.size 3 1 u ((splitL s.data.toList).length + 1) (rowN (offs (splitL s.data.toList) 0)) ∧ Below W.heap.size W w'
structure SplAt (s : ByteArray) (W wr : World) (v u : Value) (st pos : Nat) : Prop where
  ps : pos ≤ s.size
  sp : st ≤ pos
  wh : Whole (s.data.toList.take st)
  no : NoNl (btw s.data.toList st pos)
  it : wr.heap[W.heap.size + 1]? = some (.stringIter s pos)
  ov : wr.ownsRow W.heap.size 9 1 v (splitL (s.data.toList.take st)).length (rowS (splitL (s.data.toList.take st)))
  ou : wr.ownsRow W.heap.size 3 1 u ((splitL (s.data.toList.take st)).length + 1) (rowN (offs (splitL (s.data.toList.take st)) 0))
  bl : Below W.heap.size W wr
theorem new_obj (w : World) (o : Obj) : (w.alloc o).heap[w.heap.size]? = some o := by
  rw [show (w.alloc o).heap = w.heap.push o from rfl]; simp
theorem new_cells (W : World) (cs : List Value) (t : TypeId) : ∀ j u, cs[j]? = some u → (W.alloc (.cells cs.toArray t)).cell? ((⟨W.heap.size, 0, none⟩ : Addr).add j) = some u := fun j u hu => by
  rw [add_plain, blk_cell (new_obj W _)]
  simpa using hu
theorem own_alloc {w : World} {base : Nat} {e : TypeId} {size n : Nat} {v : Value} {xs : List Value} (h : w.ownsRow base e size v n xs) (o : Obj) : (w.alloc o).ownsRow base e size v n xs := pw_own_below h (below_alloc (Below.refl _ _) o)
theorem own_not_iter {w : World} {base : Nat} {e : TypeId} {size n : Nat} {v : Value} {xs : List Value} (h : w.ownsRow base e size v n xs) {k : Nat} {s : ByteArray} {pos : Nat} (hk : w.heap[k]? = some (.stringIter s pos)) : some k ≠ v.ownBlock := by
  rcases h.2 with ⟨rfl, _⟩ | ⟨g, cap, cur, rfl, _, hg, _⟩
  · simp [Value.ownBlock]
  · intro he
    simp only [Value.ownBlock, Option.some.injEq] at he
    subst he
    rw [hk] at hg; cases hg
theorem iter_grown {w w1 : World} {row : Option Nat} (hg : w.grownBy w1 row) {k : Nat} {s : ByteArray} {pos : Nat} (hk : w.heap[k]? = some (.stringIter s pos)) (hne : some k ≠ row) : w1.heap[k]? = some (.stringIter s pos) := (hg.block k (Array.getElem?_eq_some_iff.1 hk).1 hne).trans hk
theorem iter_alloc {w : World} {k : Nat} {s : ByteArray} {pos : Nat} (hk : w.heap[k]? = some (.stringIter s pos)) (o : Obj) : (w.alloc o).heap[k]? = some (.stringIter s pos) := (Below.heap_alloc w o k (Array.getElem?_eq_some_iff.1 hk).1).trans hk
theorem below_gr {B : Nat} {W w w1 : World} (h : Below B W w) {row : Option Nat} (hB : B ≤ w.heap.size) (hg : w.grownBy w1 row) (hr : ∀ k, row = some k → B ≤ k) : Below B W w1 := h.grown hg hB hr
theorem btw_snoc {c : Bs} {p q : Nat} (hp : p ≤ q) (hq : q < c.length) : btw c p (q + 1) = btw c p q ++ [c[q]] := by
  rw [← btw_join (c := c) hp (Nat.le_succ q)]
  congr 1
  unfold btw
  rw [List.drop_take, show q + 1 - q = 1 by omega, List.drop_eq_getElem_cons hq]
  rfl
theorem split_to {c : Bs} {p q : Nat} (hp : p ≤ q) (hq : q < c.length) (hw : Whole (c.take p)) (hn : NoNl (btw c p q)) (hc : c[q] = 10) : splitL (c.take (q + 1)) = splitL (c.take p) ++ [btw c p (q + 1)] ∧ Whole (c.take (q + 1)) := by
  have e : c.take (q + 1) = c.take p ++ btw c p (q + 1) := btw_take (by omega)
  have e2 : btw c p (q + 1) = btw c p q ++ [10] := by rw [btw_snoc hp hq, hc]
  constructor
  · rw [e, splitL_append _ _ hw, e2, splitL_line _ [] hn]; rfl
  · rw [e, e2]
    exact Or.inr ((endNl_append (by simp)).2 ((endNl_append (by simp)).2 rfl))
theorem flat_take {c : Bs} {p : Nat} (hp : p ≤ c.length) : (splitL (c.take p)).flatten.length = p := by rw [flatten_splitL, List.length_take]; omega
set_option maxRecDepth 100000 in
theorem splitLines_calls (s : ByteArray) (W : World) (hs : s.size ≤ 1099511627776) :
    Calls Tryz.prog 33 #[.string s] W fun e w' => SplPost s W e w' := by
  obtain ⟨iS, hiS, hzS0, hzS1, hzS2⟩ := info_parts info_string
  obtain ⟨iN, hiN, hzN0, hzN1, hzN2⟩ := info_parts info_int
  have hlen := data_length s
  have HLEN := Lib.hid hlen
  clear hlen
  go_enter Tryz.func33, Tryz.ntmps33
  go_wp2_with fail
  go_loopw [4, 5, 6] (fun v u st wr => ∃ n pos : Nat, st = .int .i64 n ∧ Aside0 (SplAt s W wr v u n pos)) (fun _ _ _ wr => s.size - wr.iterPos (W.heap.size + 1))
  case atStart =>
    refine ⟨0, 0, rfl, ⟨⟨Nat.zero_le _, Nat.le_refl _, Or.inl rfl, fun c hc => by simp [btw] at hc, ?_, ?_, ?_, ?_⟩⟩⟩
    · have := World.iter_heap (W.alloc (.cells #[.int .i64 0] 3)) s 0
      simpa using this
    · exact ⟨rfl, Or.inl ⟨rfl, rfl⟩⟩
    · refine ⟨rfl, Or.inr ⟨W.heap.size, 1, #[.int .i64 0], rfl, Nat.le_refl _, ?_, Nat.le_refl 1, by decide, rfl, rfl⟩⟩
      exact (Below.heap_alloc _ _ _ (by simp)).trans (new_obj W _)
    · exact ((Below.refl _ W).alloc (Nat.le_refl _) _).alloc (by simp) _
  case round =>
    obtain ⟨n, pos, rfl, HA⟩ := hrel
    have hp1 := HA.out.ps
    have hp2 := HA.out.sp
    have hsz : W.heap.size + 1 < wr.heap.size := (Array.getElem?_eq_some_iff.1 HA.out.it).1
    by_cases hlt : pos < s.size
    · obtain ⟨r1, r2, r3, r4, r5⟩ := rune_nl s pos hlt
      obtain ⟨w1, hw1⟩ : ∃ w1, w1 = wr.iterAt (W.heap.size + 1) s (pos + (Utf8.decode s pos).2) := ⟨_, rfl⟩
      have hnx : ∀ ty, (Instr.next (.pointer (some ⟨W.heap.size + 1, 0, none⟩)) true ty).run Tryz.prog wr = .ok (.tuple #[.bool true, .int .i64 pos, .int .i32 (Utf8.decode s pos).1]) w1 := fun ty => by
        rw [hw1]; exact Lib.run_next_any_at wr (W.heap.size + 1) s pos ty HA.out.it hlt
      have hov := own_iter HA.out.ov HA.out.it (pos + (Utf8.decode s pos).2)
      have hou := own_iter HA.out.ou HA.out.it (pos + (Utf8.decode s pos).2)
      have hit := Lib.iterAt_heap wr (W.heap.size + 1) s pos (pos + (Utf8.decode s pos).2) HA.out.it
      have hbl := Lib.below_iterAt HA.out.bl (k := W.heap.size + 1) (by omega) s (pos + (Utf8.decode s pos).2)
      rw [← hw1] at hov hou hit hbl
      have HV := Aside0.mk hov
      have HU := Aside0.mk hou
      have HI := Aside0.mk hit
      have HB := Aside0.mk hbl
      have hsz1 : W.heap.size + 1 < w1.heap.size := (Array.getElem?_eq_some_iff.1 hit).1
      clear hov hou hit hbl hw1
      have hl2 : pos < s.data.toList.length := by rw [HLEN.out]; exact hlt
      by_cases hc : s.data.toList[pos] = 10
      · have hd1 := r1.2 hc
        have hd2 := r4 hc
        rw [hd2] at HI
        rw [hd1] at hnx
        obtain ⟨k1, k2⟩ := split_to hp2 hl2 HA.out.wh HA.out.no hc
        have HK1 := Lib.hid k1
        have HK2 := Aside0.mk k2
        have hln := splitL_length_le (s.data.toList.take n)
        have hln2 : (s.data.toList.take n).length ≤ 1099511627776 := by rw [List.length_take, HLEN.out]; omega
        have HX := Lib.hid (ext_mkS s n (pos + 1))
        clear r1 r2 r3 r4 r5 hd1 hd2 hc k1 k2
        have h6 : ((pos : Int) + 1 ≤ (s.size : Int)) := by omega
        have h7 : ((n : Int) ≤ (pos : Int) + 1) := by omega
        go_wp2_with (first
          | (at_builtin; refine wpList_append_own _ rfl (.tmp 18) (.tmp 24) 29 rfl W.heap.size 9 iS _ 1 16 Tryz.underlying29 hiS hzS0 hzS1 hzS2 rfl (by decide) _ _ _ rfl (own_alloc HV.out _) ⟨w1.heap.size, 0, none⟩ 1 1 [.string (s.extract n (pos + 1))] rfl rfl ?h1 ?h2 ?h3 ?h4 ?h5 ?_; (case h1 => exact new_cells w1 _ _); (case h2 => intro u hu; simp at hu; subst hu; rfl); (case h3 => unfold maxLen; omega); (case h4 => omega); (case h5 => simp; omega); intro v2 w2 hown hgr _; have HG2 := Aside0.mk hgr; have HV2 := Aside0.mk hown; have HU2 := Aside0.mk (own_other (own_alloc HU.out _) hgr (own_type_ne HU.out HV.out (by decide))); have HI2 := Aside0.mk (iter_grown hgr (iter_alloc HI.out _) (own_not_iter HV.out HI.out)); have HB2 := Aside0.mk (below_gr (HB.out.alloc (by omega) _) (by simp; omega) hgr (fun k hk => own_base HV.out k hk)); have hsz2 : W.heap.size + 1 < w2.heap.size := (Array.getElem?_eq_some_iff.1 HI2.out).1; clear hown hgr)
          | (at_builtin; refine wpList_append_own _ rfl (.tmp 28) (.tmp 30) 40 rfl W.heap.size 3 iN _ 1 8 Tryz.underlying40 hiN hzN0 hzN1 hzN2 rfl (by decide) _ _ _ rfl (own_alloc HU2.out _) ⟨w2.heap.size, 0, none⟩ 1 1 [.int .i64 ((pos : Int) + 1)] rfl rfl ?g1 ?g2 ?g3 ?g4 ?g5 ?_; (case g1 => exact new_cells w2 _ _); (case g2 => intro u hu; simp at hu; subst hu; rfl); (case g3 => unfold maxLen; omega); (case g4 => omega); (case g5 => simp; omega); intro v3 w3 hown hgr _; have HG3 := Aside0.mk hgr; have HU3 := Aside0.mk hown; have HV3 := Aside0.mk (own_other (own_alloc HV2.out _) hgr (own_type_ne HV2.out HU2.out (by decide))); have HI3 := Aside0.mk (iter_grown hgr (iter_alloc HI2.out _) (own_not_iter HU2.out HI2.out)); have HB3 := Aside0.mk (below_gr (HB2.out.alloc (by omega) _) (by simp; omega) hgr (fun k hk => own_base HU2.out k hk)); clear hown hgr))
        go_roundw
        case rel =>
          refine ⟨pos + 1, pos + 1, by go_num, ⟨⟨by omega, Nat.le_refl _, HK2.out, fun c hc => by rw [btw_nil] at hc; simp at hc, HI3.out, ?_, ?_, HB3.out⟩⟩⟩
          · have := HV3.out
            rw [HX.out] at this
            rw [HK1.out, List.length_append, rowS_append]
            exact this
          · have := HU3.out
            rw [HK1.out, List.length_append, offs_snoc, rowN_append, Nat.zero_add, flat_take (by omega), btw_length (by omega), show n + (pos + 1 - n) = pos + 1 by omega]
            exact this
        case measure =>
          simp only [World.iterPos, HI3.out, HA.out.it]
          omega
      · have hne : ((Utf8.decode s pos).1 : Int) ≠ 10 := fun h => hc (r1.1 (by omega))
        have hb1 : (((Utf8.decode s pos).1 : Int) == 10) = false := by simpa using hne
        have hb2 : decide (((Utf8.decode s pos).1 : Int) = 10) = false := decide_eq_false hne
        have hno : NoNl (btw s.data.toList n (pos + (Utf8.decode s pos).2)) := by
          rw [← btw_join (c := s.data.toList) hp2 (by omega : pos ≤ pos + (Utf8.decode s pos).2)]
          exact noNl_append.2 ⟨HA.out.no, r5 hc⟩
        have HNO := Aside0.mk hno
        have R3 := Aside0.mk r3
        have R2 := Aside0.mk r2
        clear r1 r2 r3 r4 r5 hne hno hc
        go_wp2_with fail
        go_roundw
        case rel => exact ⟨n, pos + (Utf8.decode s pos).2, rfl, ⟨⟨R3.out, by omega, HA.out.wh, HNO.out, HI.out, HV.out, HU.out, HB.out⟩⟩⟩
        case measure =>
          have := R2.out
          simp only [World.iterPos, HI.out, HA.out.it]
          omega
    · obtain rfl : pos = s.size := by omega
      have hnx : ∀ ty, (Instr.next (.pointer (some ⟨W.heap.size + 1, 0, none⟩)) true ty).run Tryz.prog wr = .ok (.tuple #[.bool false]) wr := fun ty => Lib.run_next_end_at wr (W.heap.size + 1) s s.size ty HA.out.it hlt
      have hln := splitL_length_le (s.data.toList.take n)
      have hln2 : (s.data.toList.take n).length ≤ 1099511627776 := by rw [List.length_take, HLEN.out]; omega
      have HV := Aside0.mk HA.out.ov
      have HU := Aside0.mk HA.out.ou
      have HB := Aside0.mk HA.out.bl
      have hno := HA.out.no
      have hbe : btw s.data.toList n s.size = s.data.toList.drop n := by
        unfold btw
        rw [List.take_of_length_le (by rw [HLEN.out]; omega)]
      by_cases hn : n < s.size
      · have hsp : splitL s.data.toList = splitL (s.data.toList.take n) ++ [s.data.toList.drop n] := by
          conv => lhs; rw [← List.take_append_drop n s.data.toList]
          rw [splitL_append _ _ HA.out.wh, splitL_rest (s.data.toList.drop n) (by rw [← hbe]; exact hno) (by intro h; have := congrArg List.length h; rw [List.length_drop, HLEN.out] at this; simp at this; omega)]
        have hxx : s.extract n s.size = mkS (s.data.toList.drop n) := by
          rw [ext_mkS, List.take_of_length_le (by rw [HLEN.out]; omega)]
        have HX := Lib.hid hxx
        have HSP := Lib.hid hsp
        have hnn : (n : Int) ≤ (s.size : Int) := by omega
        clear hno hbe hxx hsp
        go_wp2_with (first
          | (at_builtin; refine wpList_append_own _ rfl (.tmp 36) (.tmp 40) 29 rfl W.heap.size 9 iS _ 1 16 Tryz.underlying29 hiS hzS0 hzS1 hzS2 rfl (by decide) _ _ _ rfl (own_alloc HV.out _) ⟨wr.heap.size, 0, none⟩ 1 1 [.string (s.extract n s.size)] rfl rfl ?h1 ?h2 ?h3 ?h4 ?h5 ?_; (case h1 => exact new_cells wr _ _); (case h2 => intro u hu; simp at hu; subst hu; rfl); (case h3 => unfold maxLen; omega); (case h4 => omega); (case h5 => simp; omega); intro v2 w2 hown hgr _; have HV2 := Aside0.mk hown; have HU2 := Aside0.mk (own_other (own_alloc HU.out _) hgr (own_type_ne HU.out HV.out (by decide))); have HB2 := Aside0.mk (below_gr (HB.out.alloc (by omega) _) (by simp; omega) hgr (fun k hk => own_base HV.out k hk)); have hsz2 : W.heap.size + 1 < w2.heap.size := by have := hgr.size; simp at this; omega
             clear hown hgr)
          | (at_builtin; refine wpList_append_own _ rfl (.tmp 42) (.tmp 45) 40 rfl W.heap.size 3 iN _ 1 8 Tryz.underlying40 hiN hzN0 hzN1 hzN2 rfl (by decide) _ _ _ rfl (own_alloc HU2.out _) ⟨w2.heap.size, 0, none⟩ 1 1 [.int .i64 (s.size : Int)] rfl rfl ?g1 ?g2 ?g3 ?g4 ?g5 ?_; (case g1 => exact new_cells w2 _ _); (case g2 => intro u hu; simp at hu; subst hu; rfl); (case g3 => unfold maxLen; omega); (case g4 => omega); (case g5 => simp; omega); intro v3 w3 hown hgr _; have HU3 := Aside0.mk hown; have HV3 := Aside0.mk (own_other (own_alloc HV2.out _) hgr (own_type_ne HV2.out HU2.out (by decide))); have HB3 := Aside0.mk (below_gr (HB2.out.alloc (by omega) _) (by simp; omega) hgr (fun k hk => own_base HU2.out k hk)); clear hown hgr))
        go_ret2
        refine ⟨_, _, rfl, ?_, ?_, HB3.out⟩
        · have := HV3.out
          rw [HX.out] at this
          rw [HSP.out, List.length_append, rowS_append]
          exact this
        · have := HU3.out
          rw [HSP.out, List.length_append, offs_snoc, rowN_append, Nat.zero_add, flat_take (by rw [HLEN.out]; omega), List.length_drop, HLEN.out, show n + (s.size - n) = s.size by omega]
          exact this
      · obtain rfl : n = s.size := by omega
        have htk : s.data.toList.take s.size = s.data.toList := List.take_of_length_le (by rw [HLEN.out]; omega)
        have HTK := Lib.hid htk
        clear hno hbe htk
        go_wp2_with fail
        go_ret2
        have h1 := HV.out
        have h2 := HU.out
        rw [HTK.out] at h1 h2
        exact ⟨_, _, rfl, h1, h2, HB.out⟩
end Go.Proofs.YtonajgipkpnpoaaGreatDoor.Un
