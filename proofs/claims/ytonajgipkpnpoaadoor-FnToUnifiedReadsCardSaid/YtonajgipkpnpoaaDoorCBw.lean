/- strings.Builder: copyCheck and WriteString, at this program (after the shelf's own walk). -/
import Derived.Test.YtonajgipkpnpoaaDoorCHk
import Derived.Shelf.Strings.BuilderK
import Derived.Shelf.Strings.BuilderX
import Derived.Test.YtonajgipkpnpoaaDoorShelf
import Derived.Lib.AppendIntMem
import Derived.Lib.SmallJoins
namespace Go.Proofs.YtonajgipkpnpoaaDoor.Un
open Go.RowKit Go.Proofs.YtonajgipkpnpoaaDoorW.PrintWords Go.Proofs.YtonajgipkpnpoaaDoorW.PrintLast Go.Proofs.YtonajgipkpnpoaaDoorW.PrintMore Go.Uni
set_option linter.unusedVariables false
set_option linter.unusedSimpArgs false

theorem bld_size : (Tryd.prog.info? 86).map (·.size) = some 2 := by kernel_rfl
theorem bld_lies : liesAt Tryd.prog Tryd.prog.depth 86 (2 / Tryd.prog.cellsOf 86) 0 86 1 = true := by kernel_rfl
theorem bld_byte : (Tryd.prog.info? 5).map (fun i => (i.zero, i.size, i.bytes)) = some (some (.int .u8 0), 1, 1) := by kernel_rfl

set_option maxHeartbeats 1000000 in
set_option maxRecDepth 100000 in
theorem copyCheck_used (b : Nat) (w : World) (h0 : w.cell? ⟨b, 0, none⟩ = some (.pointer (some ⟨b, 0, none⟩))) :
    Calls Tryd.prog 43 #[.pointer (some ⟨b, 0, none⟩)] w fun e w' => e = .returned (.tuple #[]) ∧ w' = w := by
  obtain ⟨j, hj, _⟩ := Option.map_eq_some_iff.1 bld_size
  go_enter Tryd.func43, Tryd.ntmps43
  go_wp2
  rw [Lib.run_neq_ptr_same w _ Tryd.underlying83 hj]
  go_wp2
  go_end0
  exact ⟨rfl, rfl⟩

set_option maxHeartbeats 1000000 in
set_option maxRecDepth 100000 in
theorem copyCheck_fresh (b : Nat) (w : World) (h0 : w.cell? ⟨b, 0, none⟩ = some (.pointer none)) (hsh : w.shape? b = some (86, 2)) (hfz : w.frozen? ⟨b, 0, none⟩ = false) :
    Calls Tryd.prog 43 #[.pointer (some ⟨b, 0, none⟩)] w fun e w' => e = .returned (.tuple #[]) ∧ w' = w.setCell ⟨b, 0, none⟩ (.pointer (some ⟨b, 0, none⟩)) := by
  obtain ⟨j, hj, hjs⟩ := Option.map_eq_some_iff.1 bld_size
  go_enter Tryd.func43, Tryd.ntmps43
  go_wp2
  rw [Lib.run_to_unsafe w ⟨b, 0, none⟩ Tryd.underlying83 Tryd.underlying104 hj (by rw [hjs]; decide) hsh (Nat.zero_lt_succ 1)]
  simp only [Result.andThen]
  rw [Oper.upon_value]
  go_wp2
  rw [run_callFunc_extern Tryd.func54 (by kernel_rfl) (by kernel_rfl) (by kernel_rfl) (e := Extern.AbiNoEscape.same) (by kernel_rfl)]
  rw [Lib.run_noEscape]
  simp only [Result.andThen]
  rw [Oper.upon_value]
  go_wp2
  rw [Lib.run_from_unsafe w ⟨b, 0, none⟩ Tryd.underlying104 Tryd.underlying83 hj hsh bld_lies]
  simp only [Result.andThen]
  rw [Oper.upon_value]
  go_wp2
  go_end0
  exact ⟨rfl, rfl⟩

theorem copyCheck_k (B b : Nat) (bs : List Value) (w : World) (h : Lib.IsBuilderF 86 5 B b bs w) :
    Calls Tryd.prog 43 #[.pointer (some ⟨b, 0, none⟩)] w fun e w' => e = .returned (.tuple #[]) ∧ (Lib.BuilderAtF 86 5 B b (.pointer (some ⟨b, 0, none⟩)) bs w' ∧ Below B w w' ∧ Lib.OthersKept 5 (some b) w w') := by
  rcases h with h | h
  · refine (copyCheck_fresh b w h.cell0 h.shape h.frozen0).mono ?_
    rintro e w' ⟨rfl, rfl⟩
    exact ⟨rfl, h.used _, (Below.refl B w).setCell (p := ⟨b, 0, none⟩) h.1 _, (Lib.OthersKept.refl _ _ w).setCell ⟨b, 0, none⟩ rfl _⟩
  · refine (copyCheck_used b w h.cell0).mono ?_
    rintro e w' ⟨rfl, rfl⟩
    exact ⟨rfl, h, Below.refl B _, Lib.OthersKept.refl _ _ _⟩

/-- what WriteString leaves -/
def WsPost (B b : Nat) (bs : List Value) (s : ByteArray) (w : World) (e : Ending) (w' : World) : Prop :=
  e = .returned (.tuple #[.int .i64 s.size, .nilIface]) ∧ Lib.BuilderAtF 86 5 B b (.pointer (some ⟨b, 0, none⟩)) (bs ++ Lib.strCells s) w' ∧ Below B w w' ∧ Lib.OthersKept 5 (some b) w w'

set_option maxHeartbeats 2000000 in
set_option maxRecDepth 100000 in
theorem writeString_k (B b : Nat) (bs : List Value) (s : ByteArray) (w : World) (h : Lib.IsBuilderF 86 5 B b bs w) (hlen : bs.length + s.size ≤ 140737488355328) (hBw : B ≤ w.heap.size) :
    Calls Tryd.prog 33 #[.pointer (some ⟨b, 0, none⟩), .string s] w fun e w' => WsPost B b bs s w e w' := by
  obtain ⟨i0, hi, hz0, hz1, hz2⟩ := info_parts bld_byte
  go_enter Tryd.func33, Tryd.ntmps33
  go_wp2_with (go_at_call 43; refine (copyCheck_k B b bs _ h).mono ?_)
  rintro e w1 ⟨rfl, h1, hb1, hk1⟩
  obtain ⟨hB, v, hbk, hown, hne⟩ := h1
  have c0 : w1.cell? ⟨b, 0, none⟩ = some (.pointer (some ⟨b, 0, none⟩)) := by rw [Lib.cell_of_heap hbk]; rfl
  have c1 : w1.cell? ⟨b, 1, none⟩ = some v := by rw [Lib.cell_of_heap hbk]; rfl
  go_wp2_with (at_builtin; refine Lib.wpList_append_own_stringF _ rfl _ _ 84 9 rfl B 5 i0 Tryd.underlying84 Tryd.underlying9 hi hz0 hz1 hz2 _ _ _ rfl hown s rfl ?c3 ?c4 ?c5 ?_)
  case c3 => unfold maxLen; omega
  case c4 => omega
  case c5 => have := hb1.size; omega
  intro v' w2 hown' hgrow _
  have hlt : b < w1.heap.size := by
    rcases Nat.lt_or_ge b w1.heap.size with h' | h'
    · exact h'
    · simp [Array.getElem?_eq_none h'] at hbk
  have hb2 : w2.heap[b]? = some (.cells #[.pointer (some ⟨b, 0, none⟩), v] 86 (0, 0)) := by
    rw [hgrow.block b hlt (fun e => hne e.symm)]
    exact hbk
  have d0 : w2.cell? ⟨b, 0, none⟩ = some (.pointer (some ⟨b, 0, none⟩)) := by rw [Lib.cell_of_heap hb2]; rfl
  have d1 : w2.cell? ⟨b, 1, none⟩ = some v := by rw [Lib.cell_of_heap hb2]; rfl
  have f1 : w2.frozen? ⟨b, 1, none⟩ = false := Lib.frozen_of_heap hb2 1
  obtain ⟨ao, n', cap, rfl⟩ : ∃ ao n' cap, v' = .slice ao n' cap := by
    rcases hown'.2 with ⟨hv, _⟩ | ⟨g, cap, cur, fz, hv, _⟩
    · exact ⟨_, _, _, hv⟩
    · exact ⟨_, _, _, hv⟩
  go_wp2
  go_ret2
  refine ⟨rfl, ?_, ?_, (hk1.grown hgrow (Lib.ownsRowF_kind hown)).setCell ⟨b, 1, none⟩ rfl _⟩
  · exact Lib.BuilderAtF.put (T := 86) (e := 5) hB hb2 (bs' := bs ++ Lib.strCells s) (by simpa [Lib.strCells_length] using hown') (by decide)
  · exact (hb1.grown hgrow (by have := hb1.size; omega) (fun k hk => (hown.lt k hk).1)).setCell (p := ⟨b, 1, none⟩) hB _
end Go.Proofs.YtonajgipkpnpoaaDoor.Un
/- What String has written so far. -/
namespace Go.Proofs.YtonajgipkpnpoaaDoor.Un
open Go.RowKit Go.Proofs.YtonajgipkpnpoaaDoorW.PrintWords Go.Proofs.YtonajgipkpnpoaaDoorW.PrintLast Go.Proofs.YtonajgipkpnpoaaDoorW.PrintMore Go.Uni
set_option linter.unusedVariables false
set_option linter.unusedSimpArgs false

/-- the builder at block b holds the bytes l; the world below b is that of W -/
structure SW (W : World) (b : Nat) (l : Bs) (w : World) : Prop where
  eqb : b = W.heap.size
  bld : Lib.IsBuilderF 86 5 b b (Lib.byteCells l) w
  bl : Below b W w

theorem SW.cast {W w : World} {b : Nat} {l l' : Bs} (h : SW W b l w) (e : l = l') : SW W b l' w := e ▸ h
theorem SW.size {W w : World} {b : Nat} {l : Bs} (h : SW W b l w) : b < w.heap.size := by
  rcases h.bld with h | h <;> exact h.lt

theorem SW.new_ (W : World) : SW W W.heap.size [] (W.alloc (.cells #[.pointer none, .slice none 0 0] 86)) :=
  ⟨rfl, Lib.IsBuilderF.of (Lib.fresh_isBuilder _ _ _), (Below.refl _ W).alloc (Nat.le_refl _) _⟩

theorem ownF_below {w w1 : World} {base : Nat} {e : TypeId} {size n : Nat} {v : Value} {xs : List Value} (h : w.ownsRowF base e size v n xs) (hb : Below w.heap.size w w1) : w1.ownsRowF base e size v n xs :=
  h.kept (grown_of_below hb none) (by cases v.ownBlock <;> simp)

theorem bldAt_below {w w1 : World} {T e : TypeId} {B b : Nat} {p : Value} {bs : List Value} (h : Lib.BuilderAtF T e B b p bs w) (hb : Below w.heap.size w w1) : Lib.BuilderAtF T e B b p bs w1 := by
  obtain ⟨hB, v, h1, h2, h3⟩ := h
  exact ⟨hB, v, (hb.block b (Array.getElem?_eq_some_iff.1 h1).1).trans h1, ownF_below h2 hb, h3⟩

theorem SW.below {W w w1 : World} {b : Nat} {l : Bs} (h : SW W b l w) (hb : Below w.heap.size w w1) : SW W b l w1 :=
  ⟨h.eqb, h.bld.imp (fun x => bldAt_below x hb) (fun x => bldAt_below x hb), h.bl.trans (hb.mono (Nat.le_of_lt h.size))⟩

theorem SW.alloc {W w : World} {b : Nat} {l : Bs} (h : SW W b l w) (o : Obj) : SW W b l (w.alloc o) := h.below (below_alloc (Below.refl _ _) o)

/-- what a write leaves -/
def WrPost (W : World) (b : Nat) (l : Bs) (s : ByteArray) (w : World) (e : Ending) (w' : World) : Prop :=
  e = .returned (.tuple #[.int .i64 s.size, .nilIface]) ∧ SW W b (l ++ s.data.toList) w' ∧ (∀ (k : Nat) (cs : Array Value), w.heap[k]? = some (Obj.cells cs 82 (0, 0)) → w'.heap[k]? = some (Obj.cells cs 82 (0, 0))) ∧ w.heap.size ≤ w'.heap.size

theorem SW.write {W w : World} {b : Nat} {l : Bs} (h : SW W b l w) (s : ByteArray) (hl : l.length + s.size ≤ 140737488355328) :
    Calls Tryd.prog 33 #[.pointer (some ⟨b, 0, none⟩), .string s] w fun e w' => WrPost W b l s w e w' := by
  refine (writeString_k b b (Lib.byteCells l) s w h.bld (by rw [Lib.byteCells_length]; exact hl) (Nat.le_of_lt h.size)).mono ?_
  rintro e w' ⟨rfl, h1, h2, h3⟩
  refine ⟨rfl, ⟨h.eqb, Or.inr ?_, h.bl.trans h2⟩, fun k cs hk => h3 k _ hk ?_ (fun c fz he => ?_), h2.size⟩
  · rw [Lib.byteCells_append, ← Lib.strCells_eq]; exact h1
  · intro he
    injection he with he
    subst he
    rcases h.bld with h5 | h5
    · obtain ⟨_, v, hb, _⟩ := h5
      rw [hb] at hk
      injection hk with hk
      injection hk with _ ht
      exact absurd ht (by decide)
    · obtain ⟨_, v, hb, _⟩ := h5
      rw [hb] at hk
      injection hk with hk
      injection hk with _ ht
      exact absurd ht (by decide)
  · injection he with _ ht
    exact absurd ht (by decide)

/-- the table of powers of ten -/
def Tab (w : World) : Prop := Lib.TabIs Tryd.prog w "internal/strconv.uint64pow10" .u64 Lib.pow10Tab
theorem tab_global : Tryd.prog.globalNamed "internal/strconv.uint64pow10" = some 1 := by kernel_rfl
theorem Tab.stay {w w' : World} (h : Tab w) {B : Nat} (hb : Below B w w') (hB : w.heap.size ≤ B) : Tab w' := Go.Joins.tab_stays tab_global h hb hB

theorem SW.itoa {W w : World} {b : Nat} {l : Bs} (h : SW W b l w) (ht : Tab W) (n : Nat) (hn : n ≤ 4611686018427387904) :
    Calls Tryd.prog 34 #[.int .i64 (n : Int)] w fun e w' => e = .returned (.string (mkS (Go.Lib.decDigits n))) ∧ SW W b l w' ∧ w.heap.size ≤ w'.heap.size := by
  refine (Tryd.strconv_Itoa (n : Int) (by omega) (by omega) w (ht.stay h.bl (by rw [h.eqb]; exact Nat.le_refl _))).mono ?_
  rintro e w' ⟨rfl, k, os, rfl⟩
  have hb := Lib.below_grow w.heap.size w (Nat.le_refl _) k os
  refine ⟨?_, h.below hb, hb.size⟩
  rw [Lib.itoa_nonneg]
  rfl

theorem SW.string {W w : World} {b : Nat} {l : Bs} (h : SW W b l w) :
    Calls Tryd.prog 36 #[.pointer (some ⟨b, 0, none⟩)] w fun e w' => e = .returned (.string (mkS l)) ∧ Below b W w' := by
  refine (Tryd.Builder_String_any_k b b l w h.bld (Nat.le_of_lt h.size)).mono ?_
  rintro e w' ⟨rfl, _, h2, _⟩
  exact ⟨rfl, h.bl.trans h2⟩

theorem hasSuffix_nl (l : Bs) : Lib.hasSuffix l [10] = decide (EndNl l) := by
  unfold Lib.hasSuffix
  rw [Bool.eq_iff_iff, decide_eq_true_eq, List.isSuffixOf_iff_suffix]
  unfold EndNl
  constructor
  · rintro ⟨t, rfl⟩; simp
  · intro h
    have hne : l ≠ [] := by rintro rfl; simp at h
    refine ⟨l.dropLast, ?_⟩
    rw [List.getLast?_eq_some_getLast hne] at h
    rw [← Option.some.inj h]
    exact List.dropLast_concat_getLast hne

theorem suffix_at (l : Bs) (hl : l.length ≤ 4611686018427387904) (w : World) :
    Calls Tryd.prog 35 #[.string (mkS l), .string ⟨#[10]⟩] w fun e w' => e = .returned (.bool (decide (EndNl l))) ∧ w = w' := by
  refine (Tryd.strings_HasSuffix (mkS l) ⟨#[10]⟩ w (by rw [mkS_size]; omega)).mono ?_
  rintro e w' ⟨rfl, rfl⟩
  refine ⟨?_, rfl⟩
  rw [mkS_toList, ← hasSuffix_nl]

theorem rIts_snoc {its : List It} {j : Nat} (h : j < its.length) : rIts (its.take (j + 1)) = rIts (its.take j) ++ rIt its[j] := by
  unfold rIts
  rw [List.take_succ_eq_append_getElem h, List.map_append, List.flatten_append]
  simp
theorem rHks_snoc {H : List Hk} {j : Nat} (h : j < H.length) : rHks (H.take (j + 1)) = rHks (H.take j) ++ rHk H[j] := by
  unfold rHks
  rw [List.take_succ_eq_append_getElem h, List.map_append, List.flatten_append]
  simp
theorem rIts_take (its : List It) (j : Nat) : (rIts (its.take j)).length ≤ (rIts its).length := by
  conv => rhs; rw [← List.take_append_drop j its]
  unfold rIts
  rw [List.map_append, List.flatten_append, List.length_append]
  omega
theorem rIt_le {its : List It} {j : Nat} (h : j < its.length) : (rIt its[j]).length ≤ (rIts its).length := by
  have h1 := rIts_take its (j + 1)
  rw [rIts_snoc h, List.length_append] at h1
  omega
theorem rHks_take (H : List Hk) (j : Nat) : (rHks (H.take j)).length ≤ (rHks H).length := by
  conv => rhs; rw [← List.take_append_drop j H]
  unfold rHks
  rw [List.map_append, List.flatten_append, List.length_append]
  omega
theorem rHk_le {H : List Hk} {j : Nat} (h : j < H.length) : (rHk H[j]).length ≤ (rHks H).length := by
  have h1 := rHks_take H (j + 1)
  rw [rHks_snoc h, List.length_append] at h1
  omega
theorem rowI_get (its : List It) (i : Nat) (h : i < its.length) : (rowI its)[i * 2]? = some (.int .i64 (its[i].k : Int)) ∧ (rowI its)[i * 2 + 1]? = some (.string (mkS its[i].l)) := by
  have e0 : its = its.take i ++ its[i] :: its.drop (i + 1) := by
    rw [← List.drop_eq_getElem_cons h, List.take_append_drop]
  have hl : (rowI (its.take i)).length = i * 2 := by rw [rowI_length, List.length_take]; congr 1; omega
  have e1 : rowI its = rowI (its.take i) ++ ([.int .i64 (its[i].k : Int), .string (mkS its[i].l)] ++ rowI (its.drop (i + 1))) := by
    conv => lhs; rw [e0]
    rw [rowI_append]; rfl
  rw [e1]
  refine ⟨?_, ?_⟩
  · rw [List.getElem?_append_right (by omega), hl, Nat.sub_self]; rfl
  · rw [List.getElem?_append_right (by omega), hl, show i * 2 + 1 - i * 2 = 1 by omega]; rfl
theorem fromC_snoc {its : List It} {j : Nat} (h : j < its.length) : fromC (its.take (j + 1)) = fromC (its.take j) + (if its[j].k = 1 then 0 else 1) := by
  rw [List.take_succ_eq_append_getElem h, fromC_append, fromC_cons]; simp [fromC]
theorem toC_snoc {its : List It} {j : Nat} (h : j < its.length) : toC (its.take (j + 1)) = toC (its.take j) + (if its[j].k = 0 then 0 else 1) := by
  rw [List.take_succ_eq_append_getElem h, toC_append, toC_cons]; simp [toC]
theorem fromC_le (its : List It) : fromC its ≤ its.length := by unfold fromC; exact List.length_filter_le _ _
theorem toC_le (its : List It) : toC its ≤ its.length := by unfold toC; exact List.length_filter_le _ _
end Go.Proofs.YtonajgipkpnpoaaDoor.Un
