/- What String has written so far. The reader's state, and what a hunk's lines are read as. (*reader).body: the lines of a hunk are read. (*reader).body: the walk. -/
import Derived.Test.YtonajgipkpnpoaaGreatDoorC22
import Derived.Test.YtonajgipkpnpoaaGreatDoorC13
import Derived.Lib.AppendIntMem
import Derived.Lib.SmallJoins
import Derived.Test.YtonajgipkpnpoaaGreatDoorC12
import Derived.Deep.LoopGhost
import Derived.Deep.DeepCutAuto
import Derived.WalkSpells
import Derived.Test.YtonajgipkpnpoaaGreatDoorC20
import Derived.Deep.RegionWith
namespace Go.Proofs.YtonajgipkpnpoaaGreatDoor.Un
open Go.RowKit Go.Proofs.YtonajgipkpnpoaaGreatDoorW.PrintWords Go.Proofs.YtonajgipkpnpoaaGreatDoorW.PrintLast Go.Proofs.YtonajgipkpnpoaaGreatDoorW.PrintMore Go.Uni
set_option linter.unusedVariables false
set_option linter.unusedSimpArgs false
structure SW (W : World) (b : Nat) (l : Bs) (w : World) : Prop where
  eqb : b = W.heap.size
  bld : Lib.IsBuilderF 97 5 b b (Lib.byteCells l) w
  bl : Below b W w
theorem SW.cast {W w : World} {b : Nat} {l l' : Bs} (h : SW W b l w) (e : l = l') : SW W b l' w := e ▸ h
theorem SW.size {W w : World} {b : Nat} {l : Bs} (h : SW W b l w) : b < w.heap.size := by
  rcases h.bld with h | h <;> exact h.lt
theorem SW.new_ (W : World) : SW W W.heap.size [] (W.alloc (.cells #[.pointer none, .slice none 0 0] 97)) :=
  ⟨rfl, Lib.IsBuilderF.of (Lib.fresh_isBuilder _ _ _), (Below.refl _ W).alloc (Nat.le_refl _) _⟩
theorem ownF_below {w w1 : World} {base : Nat} {e : TypeId} {size n : Nat} {v : Value} {xs : List Value} (h : w.ownsRowF base e size v n xs) (hb : Below w.heap.size w w1) : w1.ownsRowF base e size v n xs :=
  h.kept (grown_of_below hb none) (by cases v.ownBlock <;> simp)
theorem bldAt_below {w w1 : World} {T e : TypeId} {B b : Nat} {p : Value} {bs : List Value} (h : Lib.BuilderAtF T e B b p bs w) (hb : Below w.heap.size w w1) : Lib.BuilderAtF T e B b p bs w1 := by
  obtain ⟨hB, v, h1, h2, h3⟩ := h
  exact ⟨hB, v, (hb.block b (Array.getElem?_eq_some_iff.1 h1).1).trans h1, ownF_below h2 hb, h3⟩
theorem SW.below {W w w1 : World} {b : Nat} {l : Bs} (h : SW W b l w) (hb : Below w.heap.size w w1) : SW W b l w1 :=
  ⟨h.eqb, h.bld.imp (fun x => bldAt_below x hb) (fun x => bldAt_below x hb), h.bl.trans (hb.mono (Nat.le_of_lt h.size))⟩
theorem SW.alloc {W w : World} {b : Nat} {l : Bs} (h : SW W b l w) (o : Obj) : SW W b l (w.alloc o) := h.below (below_alloc (Below.refl _ _) o)
def WrPost (W : World) (b : Nat) (l : Bs) (s : ByteArray) (w : World) (e : Ending) (w' : World) : Prop :=
  e = .returned (.tuple #[.int .i64 s.size, .nilIface]) ∧ SW W b (l ++ s.data.toList) w' ∧ (∀ (k : Nat) (cs : Array Value), w.heap[k]? = some (Obj.cells cs 94 (0, 0)) → w'.heap[k]? = some (Obj.cells cs 94 (0, 0))) ∧ w.heap.size ≤ w'.heap.size
theorem SW.write {W w : World} {b : Nat} {l : Bs} (h : SW W b l w) (s : ByteArray) (hl : l.length + s.size ≤ 140737488355328) :
    Calls Tryz.prog 45 #[.pointer (some ⟨b, 0, none⟩), .string s] w fun e w' => WrPost W b l s w e w' := by
  refine (writeString_k b b (Lib.byteCells l) s w h.bld (by rw [Lib.byteCells_length]; exact hl) (Nat.le_of_lt h.size)).mono ?_
  rintro e w' ⟨rfl, h1, h2, h3⟩
  refine ⟨rfl, ⟨h.eqb, Or.inr ?_, h.bl.trans h2⟩, fun k cs hk => h3 k _ hk ?_ (fun c fz he => ?_), h2.size⟩
  · rw [Lib.byteCells_append, ← Lib.strCells_eq]; exact h1
  · intro he
    injection he with he
    subst he
    rcases h.bld with h5 | h5
    · obtain ⟨_, v, hb, _⟩ := h5
      rw [hb] at hk
      injection hk with hk
      injection hk with _ ht
      exact absurd ht (by decide)
    · obtain ⟨_, v, hb, _⟩ := h5
      rw [hb] at hk
      injection hk with hk
      injection hk with _ ht
      exact absurd ht (by decide)
  · injection he with _ ht
    exact absurd ht (by decide)
def Tab (w : World) : Prop := Lib.TabIs Tryz.prog w "internal/strconv.uint64pow10" .u64 Lib.pow10Tab
theorem tab_global : Tryz.prog.globalNamed "internal/strconv.uint64pow10" = some 1 := by kernel_rfl
theorem Tab.stay {w w' : World} (h : Tab w) {B : Nat} (hb : Below B w w') (hB : w.heap.size ≤ B) : Tab w' := Go.Joins.tab_stays tab_global h hb hB
theorem SW.itoa {W w : World} {b : Nat} {l : Bs} (h : SW W b l w) (ht : Tab W) (n : Nat) (hn : n ≤ 4611686018427387904) :
    Calls Tryz.prog 46 #[.int .i64 (n : Int)] w fun e w' => e = .returned (.string (mkS (Go.Lib.decDigits n))) ∧ SW W b l w' ∧ w.heap.size ≤ w'.heap.size := by
  refine (Tryz.strconv_Itoa (n : Int) (by omega) (by omega) w (ht.stay h.bl (by rw [h.eqb]; exact Nat.le_refl _))).mono ?_
  rintro e w' ⟨rfl, k, os, rfl⟩
  have hb := Lib.below_grow w.heap.size w (Nat.le_refl _) k os
  refine ⟨?_, h.below hb, hb.size⟩
  rw [Lib.itoa_nonneg]
  rfl
theorem SW.string {W w : World} {b : Nat} {l : Bs} (h : SW W b l w) :
    Calls Tryz.prog 48 #[.pointer (some ⟨b, 0, none⟩)] w fun e w' => e = .returned (.string (mkS l)) ∧ Below b W w' := by
  refine (Tryz.Builder_String_any_k b b l w h.bld (Nat.le_of_lt h.size)).mono ?_
  rintro e w' ⟨rfl, _, h2, _⟩
  exact ⟨rfl, h.bl.trans h2⟩
theorem hasSuffix_nl (l : Bs) : Lib.hasSuffix l [10] = decide (EndNl l) := by
  unfold Lib.hasSuffix
  rw [Bool.eq_iff_iff, decide_eq_true_eq, List.isSuffixOf_iff_suffix]
  unfold EndNl
  constructor
  · rintro ⟨t, rfl⟩; simp
  · intro h
    have hne : l ≠ [] := by rintro rfl; simp at h
    refine ⟨l.dropLast, ?_⟩
    rw [List.getLast?_eq_some_getLast hne] at h
    rw [← Option.some.inj h]
    exact List.dropLast_concat_getLast hne
theorem suffix_at (l : Bs) (hl : l.length ≤ 4611686018427387904) (w : World) :
    Calls Tryz.prog 47 #[.string (mkS l), .string ⟨#[10]⟩] w fun e w' => e = .returned (.bool (decide (EndNl l))) ∧ w = w' := by
  refine (Tryz.strings_HasSuffix (mkS l) ⟨#[10]⟩ w (by rw [mkS_size]; omega)).mono ?_
  rintro e w' ⟨rfl, rfl⟩
  refine ⟨?_, rfl⟩
  rw [mkS_toList, ← hasSuffix_nl]
theorem rIts_snoc {its : List It} {j : Nat} (h : j < its.length) : rIts (its.take (j + 1)) = rIts (its.take j) ++ rIt its[j] := by
  unfold rIts
  rw [List.take_succ_eq_append_getElem h, List.map_append, List.flatten_append]
  simp
theorem rHks_snoc {H : List Hk} {j : Nat} (h : j < H.length) : rHks (H.take (j + 1)) = rHks (H.take j) ++ rHk H[j] := by
  unfold rHks
  rw [List.take_succ_eq_append_getElem h, List.map_append, List.flatten_append]
  simp
theorem rIts_take (its : List It) (j : Nat) : (rIts (its.take j)).length ≤ (rIts its).length := by
  conv => rhs; rw [← List.take_append_drop j its]
  unfold rIts
  rw [List.map_append, List.flatten_append, List.length_append]
  omega
theorem rIt_le {its : List It} {j : Nat} (h : j < its.length) : (rIt its[j]).length ≤ (rIts its).length := by
  have h1 := rIts_take its (j + 1)
  rw [rIts_snoc h, List.length_append] at h1
  omega
theorem rHks_take (H : List Hk) (j : Nat) : (rHks (H.take j)).length ≤ (rHks H).length := by
  conv => rhs; rw [← List.take_append_drop j H]
  unfold rHks
  rw [List.map_append, List.flatten_append, List.length_append]
  omega
theorem rHk_le {H : List Hk} {j : Nat} (h : j < H.length) : (rHk H[j]).length ≤ (rHks H).length := by
  have h1 := rHks_take H (j + 1)
  rw [rHks_snoc h, List.length_append] at h1
  omega
theorem rowI_get (its : List It) (i : Nat) (h : i < its.length) : (rowI its)[i * 2]? = some (.int .i64 (its[i].k : Int)) ∧ (rowI its)[i * 2 + 1]? = some (.string (mkS its[i].l)) := by
  have e0 : its = its.take i ++ its[i] :: its.drop (i + 1) := by
    rw [← List.drop_eq_getElem_cons h, List.take_append_drop]
  have hl : (rowI (its.take i)).length = i * 2 := by rw [rowI_length, List.length_take]; congr 1; omega
  have e1 : rowI its = rowI (its.take i) ++ ([.int .i64 (its[i].k : Int), .string (mkS its[i].l)] ++ rowI (its.drop (i + 1))) := by
    conv => lhs; rw [e0]
    rw [rowI_append]; rfl
  rw [e1]
  refine ⟨?_, ?_⟩
  · rw [List.getElem?_append_right (by omega), hl, Nat.sub_self]; rfl
  · rw [List.getElem?_append_right (by omega), hl, show i * 2 + 1 - i * 2 = 1 by omega]; rfl
theorem fromC_snoc {its : List It} {j : Nat} (h : j < its.length) : fromC (its.take (j + 1)) = fromC (its.take j) + (if its[j].k = 1 then 0 else 1) := by
  rw [List.take_succ_eq_append_getElem h, fromC_append, fromC_cons]; simp [fromC]
theorem toC_snoc {its : List It} {j : Nat} (h : j < its.length) : toC (its.take (j + 1)) = toC (its.take j) + (if its[j].k = 0 then 0 else 1) := by
  rw [List.take_succ_eq_append_getElem h, toC_append, toC_cons]; simp [toC]
theorem fromC_le (its : List It) : fromC its ≤ its.length := by unfold fromC; exact List.length_filter_le _ _
theorem toC_le (its : List It) : toC its ≤ its.length := by unfold toC; exact List.length_filter_le _ _
end Go.Proofs.YtonajgipkpnpoaaGreatDoor.Un
namespace Go.Proofs.YtonajgipkpnpoaaGreatDoor.Un
open Go.RowKit Go.Proofs.YtonajgipkpnpoaaGreatDoorW.PrintWords Go.Proofs.YtonajgipkpnpoaaGreatDoorW.PrintLast Go.Proofs.YtonajgipkpnpoaaGreatDoorW.PrintMore Go.Uni
open Go.Proofs.YtonajgipkpnpoaaGreatDoor.Rd (Pin IsS43)
set_option linter.unusedVariables false
set_option linter.unusedSimpArgs false
structure RS (w0 w : World) (g : Nat) (U : ByteArray) (o : Pin) (p d : Nat) (acc : List Bs) (y : Pin) : Prop where
  is : IsS43 w0 w g U (p : Int) false o (d : Int) y
  bl : Below w0.heap.size w0 w
  yn : y.n = acc.length
  out : w.ownsRow w0.heap.size 9 1 (.slice y.A y.n y.c) acc.length (rowS acc)
theorem RS.blk {w0 w : World} {g : Nat} {U : ByteArray} {o : Pin} {p d : Nat} {acc : List Bs} {y : Pin} (h : RS w0 w g U o p d acc y) : w.heap[g]? = some (.cells #[.string U, .int .i64 (p : Int), .bool false, .slice o.A o.n o.c, .int .i64 (d : Int), .slice y.A y.n y.c] 43 (0, 0)) ∧ w0.heap.size ≤ g := by
  obtain ⟨A3, c3, A5, c5, hb, hg, ⟨rfl, rfl⟩, ⟨rfl, rfl⟩⟩ := h.is
  exact ⟨hb, hg⟩
theorem RS.mk' {w0 w : World} {g : Nat} {U : ByteArray} {o : Pin} {p d : Nat} {acc : List Bs} {y : Pin} (hb : w.heap[g]? = some (.cells #[.string U, .int .i64 (p : Int), .bool false, .slice o.A o.n o.c, .int .i64 (d : Int), .slice y.A y.n y.c] 43 (0, 0))) (hg : w0.heap.size ≤ g) (bl : Below w0.heap.size w0 w) (yn : y.n = acc.length) (out : w.ownsRow w0.heap.size 9 1 (.slice y.A y.n y.c) acc.length (rowS acc)) : RS w0 w g U o p d acc y :=
  ⟨⟨o.A, o.c, y.A, y.c, hb, hg, ⟨rfl, rfl⟩, ⟨rfl, rfl⟩⟩, bl, yn, out⟩
theorem keep_fr {w w' : World} {g : Nat} {B : Nat} {w0 : World} (hk : KeepBut w w' g none) (h0 : Below w0.heap.size w0 w) (h1 : Below w0.heap.size w0 w') : Fr w w' (fun b => b = g) :=
  ⟨h1.os.trans h0.os.symm, h1.tape.trans h0.tape.symm, h1.output.trans h0.output.symm, hk.1, fun k hlt hne => hk.2 k hlt hne (by simp)⟩
theorem RS.call {w0 w w' : World} {g : Nat} {U : ByteArray} {o : Pin} {p p' d : Nat} {acc : List Bs} {y : Pin} (h : RS w0 w g U o p d acc y) (h1 : IsS43 w0 w' g U (p' : Int) false o (d : Int) y) (h2 : Below w0.heap.size w0 w') (h3 : KeepBut w w' g none) : RS w0 w' g U o p' d acc y ∧ Fr w w' (fun b => b = g) := by
  have hf := keep_fr (B := 0) h3 h.bl h2
  refine ⟨⟨h1, h2, h.yn, own_fr h.out hf ?_⟩, hf⟩
  rintro b hb rfl
  exact own_ne_blk h.out h.blk.1 (by decide) hb
theorem rIt_parts (i : It) (hl : Line i.l) : ∃ b tl, rIt i = (sign i.k :: b) ++ 10 :: tl ∧ NoNl (sign i.k :: b) ∧ ((tl = [] ∧ i.l = b ++ [10]) ∨ (tl = noEnd ∧ i.l = b)) := by
  have hs : sign i.k ≠ 10 := by unfold sign; split <;> (try split) <;> decide
  unfold rIt
  by_cases h : EndNl i.l
  · obtain ⟨h1, h2⟩ := hl
    have e : i.l = i.l.dropLast ++ [10] := by
      have h3 := List.dropLast_concat_getLast h1
      unfold EndNl at h
      rw [List.getLast?_eq_some_getLast h1] at h
      rw [Option.some.inj h] at h3
      exact h3.symm
    refine ⟨i.l.dropLast, [], ?_, ?_, Or.inl ⟨rfl, e⟩⟩
    · rw [if_pos h, List.append_nil]
      conv => lhs; rw [e]
      try simp
    · intro c hc
      rcases List.mem_cons.1 hc with rfl | hc
      · exact hs
      · exact h2 c hc
  · obtain ⟨h1, h2⟩ := hl
    refine ⟨i.l, noEnd, by rw [if_neg h], ?_, Or.inr ⟨rfl, rfl⟩⟩
    intro c hc
    rcases List.mem_cons.1 hc with rfl | hc
    · exact hs
    · rw [← List.dropLast_concat_getLast h1] at hc
      rcases List.mem_append.1 hc with hc | hc
      · exact h2 c hc
      · intro he
        simp at hc
        apply h
        unfold EndNl
        rw [List.getLast?_eq_some_getLast h1, ← hc, he]
theorem ended_both (u : ByteArray) (p : Nat) (o y : Pin) (d : Int) (b tl l r : Bs) (hu : u.size ≤ 1000000000000000) (hp : p ≤ u.size) (h : u.data.toList.drop p = tl ++ r) (hr : ∀ c t, r = c :: t → c ≠ 92) (hb : b.length ≤ 1000000000000000) (hl : (tl = [] ∧ l = b ++ [10]) ∨ (tl = noEnd ∧ l = b)) :
    Rd.spec_reader_ended.f u p false o d y (mkS b) = some (mkS l, u, ((p + tl.length : Nat) : Int), false, d) := by
  rcases hl with ⟨rfl, rfl⟩ | ⟨rfl, rfl⟩
  · rw [Rd.ended_yes u p o y d (mkS b) r hu hp (by simpa using h) hr (by rw [mkS_size]; exact hb)]
    have : mkS b ++ ⟨#[10]⟩ = mkS (b ++ [10]) := by
      apply ByteArray.ext
      simp [mkS]
    rw [this]
    simp
  · rw [Rd.ended_no u p o y d (mkS l) r hu h]
    rfl
end Go.Proofs.YtonajgipkpnpoaaGreatDoor.Un
namespace Go.Proofs.YtonajgipkpnpoaaGreatDoor.Un
open Go.RowKit Go.Proofs.YtonajgipkpnpoaaGreatDoorW.PrintWords Go.Proofs.YtonajgipkpnpoaaGreatDoorW.PrintLast Go.Proofs.YtonajgipkpnpoaaGreatDoorW.PrintMore Go.Uni
open Go.Proofs.YtonajgipkpnpoaaGreatDoor.Rd (Pin IsS43)
set_option linter.unusedVariables false
set_option linter.unusedSimpArgs false
def pv (y : Pin) : Value := .slice y.A y.n y.c
structure HkR where
  f : Int
  t : Int
  its : List It
def hkB (h : HkR) (a b : Nat) : Array Value := #[.int .i64 h.f, .int .i64 (fromC h.its : Int), .int .i64 h.t, .int .i64 (toC h.its : Int), .int .i64 (a : Int), .int .i64 (b : Int)]
structure Bo (w0 W wr : World) (g gh : Nat) (U : ByteArray) (o y0 y : Pin) (p d : Nat) (acc : List Bs) (h : HkR) (a b : Nat) : Prop where
  rs : RS w0 wr g U o p d acc y
  hb : wr.heap[gh]? = some (.cells (hkB h a b) 46 (0, 0))
  ge : w0.heap.size ≤ gh
  fr : Fr W wr (fun k => k = g ∨ k = gh ∨ some k = (pv y0).ownBlock)
  ow : (pv y).ownBlock = (pv y0).ownBlock ∨ ∃ k, (pv y).ownBlock = some k ∧ W.heap.size ≤ k
variable {w0 W wr : World} {g gh : Nat} {U : ByteArray} {o y0 y : Pin} {p d : Nat} {acc : List Bs} {h : HkR} {a b : Nat}
theorem Bo.ne (k : Bo w0 W wr g gh U o y0 y p d acc h a b) : gh ≠ g := blk_ne k.hb k.rs.blk.1 (by decide)
theorem Bo.call (k : Bo w0 W wr g gh U o y0 y p d acc h a b) {w' : World} {p' : Nat} (h1 : IsS43 w0 w' g U (p' : Int) false o (d : Int) y) (h2 : Below w0.heap.size w0 w') (h3 : KeepBut wr w' g none) : Bo w0 W w' g gh U o y0 y p' d acc h a b := by
  obtain ⟨e1, e2⟩ := k.rs.call h1 h2 h3
  exact ⟨e1, e2.heap k.hb k.ne, k.ge, Fr.then_ k.fr e2 (fun x hx => Or.inl (Or.inl hx)), k.ow⟩
theorem Bo.keep (k : Bo w0 W wr g gh U o y0 y p d acc h a b) {w' : World} (hf : Fr wr w' (fun _ => False)) : Bo w0 W w' g gh U o y0 y p d acc h a b := by
  refine ⟨?_, hf.heap k.hb (fun x => x), k.ge, Fr.then_ k.fr hf (fun _ x => x.elim), k.ow⟩
  obtain ⟨hb, hg⟩ := k.rs.blk
  exact RS.mk' (hf.heap hb (fun x => x)) hg (k.rs.bl.trans (hf.below k.rs.bl.size (fun _ x => x.elim))) k.rs.yn (own_fr k.rs.out hf (fun _ _ x => x))
theorem Bo.setH (k : Bo w0 W wr g gh U o y0 y p d acc h a b) (i : Nat) (u : Value) {a' b' : Nat} (e : (hkB h a b).setIfInBounds i u = hkB h a' b') : Bo w0 W (wr.setCell ⟨gh, i, none⟩ u) g gh U o y0 y p d acc h a' b' := by
  have hf := Fr.set_ wr ⟨gh, i, none⟩ u
  obtain ⟨hb, hg⟩ := k.rs.blk
  refine ⟨RS.mk' (hf.heap hb (fun x => k.ne x.symm)) hg (k.rs.bl.trans (hf.below k.rs.bl.size (fun x hx => by rw [hx]; exact k.ge))) k.rs.yn (own_fr k.rs.out hf ?_), ?_, k.ge, Fr.then_ k.fr hf (fun x hx => Or.inl (Or.inr (Or.inl hx))), k.ow⟩
  · rintro x hx rfl
    exact own_ne_blk k.rs.out k.hb (by decide) hx
  · have := blk_set k.hb i u
    rwa [e] at this
theorem Bo.done (k : Bo w0 W wr g gh U o y0 y p d acc h a b) (d' : Nat) : Bo w0 W (wr.setCell ⟨g, 4, none⟩ (.int .i64 (d' : Int))) g gh U o y0 y p d' acc h a b := by
  have hf := Fr.set_ wr ⟨g, 4, none⟩ (.int .i64 (d' : Int))
  obtain ⟨hb, hg⟩ := k.rs.blk
  refine ⟨RS.mk' (by simpa using blk_set hb 4 (.int .i64 (d' : Int))) hg (k.rs.bl.trans (hf.below k.rs.bl.size (fun x hx => by rw [hx]; exact hg))) k.rs.yn (own_fr k.rs.out hf ?_), hf.heap k.hb k.ne, k.ge, Fr.then_ k.fr hf (fun x hx => Or.inl (Or.inl hx)), k.ow⟩
  rintro x hx rfl
  exact own_ne_blk k.rs.out hb (by decide) hx
theorem Bo.bad (k : Bo w0 W wr g gh U o y0 y p d acc h a b) : Bo w0 W (wr.setCell ⟨g, 2, none⟩ (.bool false)) g gh U o y0 y p d acc h a b := by
  have hf := Fr.set_ wr ⟨g, 2, none⟩ (.bool false)
  obtain ⟨hb, hg⟩ := k.rs.blk
  refine ⟨RS.mk' (by simpa using blk_set hb 2 (.bool false)) hg (k.rs.bl.trans (hf.below k.rs.bl.size (fun x hx => by rw [hx]; exact hg))) k.rs.yn (own_fr k.rs.out hf ?_), hf.heap k.hb k.ne, k.ge, Fr.then_ k.fr hf (fun x hx => Or.inl (Or.inl hx)), k.ow⟩
  rintro x hx rfl
  exact own_ne_blk k.rs.out hb (by decide) hx
theorem Bo.push (k : Bo w0 W wr g gh U o y0 y p d acc h a b) (hW : w0.heap.size ≤ W.heap.size) {ob : Obj} {w1 : World} {gg cap n : Nat} (hn : n = acc.length + 1) {l : Bs} (hg1 : (wr.alloc ob).drew.grownBy w1 (pv y).ownBlock) (hown : w1.ownsRow w0.heap.size 9 1 (.slice (some ⟨gg, 0, none⟩) n cap) n (rowS acc ++ [.string (mkS l)])) (hat : (pv y).ownBlock = some gg ∨ gg = wr.heap.size + 1) :
    Bo w0 W (w1.setCell ⟨g, 5, none⟩ (.slice (some ⟨gg, 0, none⟩) n cap)) g gh U o y0 ⟨some ⟨gg, 0, none⟩, n, cap⟩ p d (acc ++ [l]) h a b := by
  subst hn
  obtain ⟨hb, hg⟩ := k.rs.blk
  have hneg : (pv y).ownBlock ≠ some g := own_ne_blk k.rs.out hb (by decide)
  have hneh : (pv y).ownBlock ≠ some gh := own_ne_blk k.rs.out k.hb (by decide)
  have hb1 : w1.heap[g]? = _ := (blk_after hg1 (Array.getElem?_eq_some_iff.1 hb).1 hneg).trans hb
  have hh1 : w1.heap[gh]? = _ := (blk_after hg1 (Array.getElem?_eq_some_iff.1 k.hb).1 hneh).trans k.hb
  have hf1 : Fr wr w1 (fun x => some x = (pv y).ownBlock) := Fr.then_ (Fr.alloc_ wr ob _) (Fr.of_drew (Fr.of_grown hg1)) (fun x hx => Or.inl hx)
  have hf := Fr.then_ (S := fun x => some x = (pv y).ownBlock ∨ x = g) (hf1.mono (fun x hx => Or.inl hx)) (Fr.set_ w1 ⟨g, 5, none⟩ (.slice (some ⟨gg, 0, none⟩) (acc.length + 1) cap)) (fun x hx => Or.inl (Or.inr hx))
  have hge : ∀ x, (pv y).ownBlock = some x → w0.heap.size ≤ x := by
    intro x hx
    rcases k.rs.out.2 with ⟨h0, _⟩ | ⟨g1, c1, cur, h1, h2, _⟩
    · unfold pv at hx; rw [h0] at hx; cases hx
    · unfold pv at hx; rw [h1] at hx
      have : g1 = x := by simpa [Value.ownBlock] using hx
      omega
  have hne5 : (Value.slice (some ⟨gg, 0, none⟩) (acc.length + 1) cap).ownBlock ≠ some g := own_ne_blk hown hb1 (by decide)
  refine ⟨RS.mk' (by simpa using blk_set hb1 5 (.slice (some ⟨gg, 0, none⟩) (acc.length + 1) cap)) hg ?_ (by simp) ?_, (Fr.set_ w1 ⟨g, 5, none⟩ _).heap hh1 k.ne, k.ge, Fr.then_ k.fr hf ?_, ?_⟩
  · refine k.rs.bl.trans (hf.below k.rs.bl.size ?_)
    rintro x (hx | rfl)
    · exact hge x hx.symm
    · exact hg
  · rw [List.length_append, rowS_append]
    exact own_setCell hown (p := ⟨g, 5, none⟩) (fun he => hne5 he.symm) _
  · rintro x (hx | rfl)
    · rcases k.ow with h1 | ⟨q, h1, h2⟩
      · rw [h1] at hx; exact Or.inl (Or.inr (Or.inr hx))
      · rw [h1] at hx; injection hx with hx; exact Or.inr (by omega)
    · exact Or.inl (Or.inl rfl)
  · exact ow_push (v := pv y0) (v' := pv y) k.fr.size k.ow hat
theorem Bo.old (k : Bo w0 W wr g gh U o y0 y p d acc h a b) {L : List Bs} (hO : w0.ownsRow 0 9 1 (pv o) L.length (rowS L)) : wr.ownsRow 0 9 1 (pv o) L.length (rowS L) := pw_own_below hO k.rs.bl
end Go.Proofs.YtonajgipkpnpoaaGreatDoor.Un
namespace Go.Proofs.YtonajgipkpnpoaaGreatDoor.Un
open Go.RowKit Go.Proofs.YtonajgipkpnpoaaGreatDoorW.PrintWords Go.Proofs.YtonajgipkpnpoaaGreatDoorW.PrintLast Go.Proofs.YtonajgipkpnpoaaGreatDoorW.PrintMore Go.Uni
open Go.Proofs.YtonajgipkpnpoaaGreatDoor.Rd (Pin IsS43)
set_option linter.unusedVariables false
set_option linter.unusedSimpArgs false
def BodyPost (w0 W : World) (g gh : Nat) (U : ByteArray) (o y0 : Pin) (p D : Nat) (ACC : List Bs) (h : HkR) (HT : Nat × Nat × Bool) (e : Ending) (w' : World) : Prop :=
  ∃ y, e = .returned (.tuple #[]) ∧ Bo w0 W w' g gh U o y0 y p D ACC h HT.1 HT.2.1
theorem gr_drew' {w w1 : World} {row : Option Nat} (h : w.grownBy w1 row) : w.drew.grownBy w1 row := ⟨h.os, h.tape, h.output, h.size, h.block⟩
theorem fromC_k1 {i : It} (t : List It) (h : i.k = 1) : fromC (i :: t) = fromC t := by rw [fromC_cons, if_pos h, Nat.zero_add]
theorem fromC_k {i : It} (t : List It) (h : i.k ≠ 1) : fromC (i :: t) = fromC t + 1 := by rw [fromC_cons, if_neg h, Nat.add_comm]
theorem toC_k0 {i : It} (t : List It) (h : i.k = 0) : toC (i :: t) = toC t := by rw [toC_cons, if_pos h, Nat.zero_add]
theorem toC_k {i : It} (t : List It) (h : i.k ≠ 0) : toC (i :: t) = toC t + 1 := by rw [toC_cons, if_neg h, Nat.add_comm]
theorem rIts_cons (i : It) (t : List It) : rIts (i :: t) = rIt i ++ rIts t := by simp [rIts]
theorem rIts_head {its : List It} {rest : Bs} (hr : ∀ c t, rest = c :: t → c ≠ 92) : ∀ c t, rIts its ++ rest = c :: t → c ≠ 92 := by
  cases its with
  | nil => exact hr
  | cons i t =>
    intro c s he
    rw [rIts_cons] at he
    simp only [rIt, List.cons_append, List.cons.injEq] at he
    rw [← he.1]
    unfold sign
    split <;> (try split) <;> decide
theorem drop_le {u : ByteArray} {p : Nat} {r : Bs} (h : u.data.toList.drop p = r) (hne : r ≠ []) : p ≤ u.size := by
  rw [← data_length]
  rcases Nat.lt_or_ge u.data.toList.length p with h1 | h1
  · rw [List.drop_eq_nil_of_le (by omega)] at h; exact absurd h.symm hne
  · exact h1
theorem run_len {L : List Bs} : ∀ {its : List It} {d : Nat} {acc : List Bs} {D : Nat} {ACC : List Bs}, run L its d acc = some (D, ACC) → acc.length ≤ ACC.length
  | [], d, acc, D, ACC, h => by
    injection h with h
    injection h with h1 h2
    rw [h2]; exact Nat.le_refl _
  | i :: t, d, acc, D, ACC, h => by
    unfold run at h
    by_cases hk : i.k = 1
    · rw [if_pos hk] at h
      have := run_len h
      simp at this; omega
    · rw [if_neg hk] at h
      by_cases hd : L[d]? = some i.l
      · rw [if_pos hd] at h
        have := run_len h
        split at this
        · exact this
        · simp at this; omega
      · rw [if_neg hd] at h; cases h
set_option maxRecDepth 100000 in
set_option maxHeartbeats 8000000 in
theorem body_calls (w0 W : World) (g gh : Nat) (U : ByteArray) (o y0 : Pin) (p D : Nat) (d : Nat) (acc ACC : List Bs) (h : HkR) (L : List Bs) (rest : Bs) (HT : Nat × Nat × Bool)
    (hw : w0.heap.size ≤ W.heap.size) (hU : U.size ≤ 1000000000000000) (hO : w0.ownsRow 0 9 1 (pv o) L.length (rowS L)) (hoL : o.n = L.length) (hL : L.length ≤ 1099511627776)
    (hB : Bo w0 W W g gh U o y0 y0 p d acc h 0 0) (hln : ∀ i ∈ h.its, Line i.l ∧ i.k ≤ 2) (hrun : run L h.its d acc = some (D, ACC)) (hht : ht h.its (0, 0, false) = HT) (hdr : U.data.toList.drop p = rIts h.its ++ rest) (hrest : ∀ c t, rest = c :: t → c ≠ 92) (hacc : ACC.length ≤ 1000000000000) (hits : h.its.length ≤ 1000000000000) :
    Calls Tryz.prog 30 #[.pointer (some ⟨g, 0, none⟩), .pointer (some ⟨gh, 0, none⟩)] W fun e w' => BodyPost w0 W g gh U o y0 (p + (rIts h.its).length) D ACC h HT e w' := by
  have HB := Aside0.mk hB
  have HO := Aside0.mk hO
  clear hB hO
  go_enter Tryz.func30, Tryz.ntmps30
  go_wp2_with fail
  go_loopg [4, 5, 6] h.its.length (fun gk v4 v5 v6 wr => ∃ (pr rem : List It) (d : Nat) (acc : List Bs) (y : Pin) (q a b : Nat) (ch : Bool), h.its = pr ++ rem ∧ gk = rem.length ∧ v4 = .int .i64 (fromC pr : Int) ∧ v5 = .int .i64 (toC pr : Int) ∧ v6 = .bool ch ∧ q + (rIts rem).length = p + (rIts h.its).length ∧ a + b ≤ pr.length ∧ Hid (run L rem d acc = some (D, ACC)) ∧ Hid (ht rem (a, b, ch) = HT) ∧ Hid (U.data.toList.drop q = rIts rem ++ rest) ∧ Aside0 (Bo w0 W wr g gh U o y0 y q d acc h a b))
  case atStart => exact ⟨[], h.its, d, acc, y0, p, 0, 0, false, rfl, rfl, rfl, rfl, rfl, rfl, Nat.le_refl _, Lib.hid hrun, Lib.hid hht, Lib.hid hdr, ⟨HB.out⟩⟩
  case round =>
    obtain ⟨pr, rem, d, acc, y, q, a, b, ch, hi, rfl, rfl, rfl, rfl, hq, hab, HR, HH, HD, HA⟩ := hrel
    clear hrun hht hdr
    have cg := HA.out.rs.blk.1
    have c2 : wr.cell? ⟨g, 2, none⟩ = some (.bool false) := blk_cell cg 2
    have f2 : wr.frozen? ⟨g, 2, none⟩ = false := blk_frozen cg 2
    have ch1 : wr.cell? ⟨gh, 1, none⟩ = some (.int .i64 (fromC h.its : Int)) := blk_cell HA.out.hb 1
    have ch3 : wr.cell? ⟨gh, 3, none⟩ = some (.int .i64 (toC h.its : Int)) := blk_cell HA.out.hb 3
    clear cg
    have hfp : fromC h.its = fromC pr + fromC rem := by rw [hi, fromC_append]
    have htp : toC h.its = toC pr + toC rem := by rw [hi, toC_append]
    cases rem with
    | nil =>
      have HI := Lib.hid hi
      clear hi
      have e1 : fromC h.its = fromC pr := hfp
      have e2 : toC h.its = toC pr := htp
      rw [e1] at ch1
      rw [e2] at ch3
      clear hfp htp e1 e2
      go_wp2_with fail
      -- <n
      refine bodyPost_ret (results_none rfl _ _ _) rfl ?_
      have hR := HR.out
      have hH := HH.out
      injection hR with hR
      injection hR with hR1 hR2
      subst hR1 hR2
      have hq2 : q = p + (rIts h.its).length := by rw [← hq]; rfl
      rw [← hq2, ← hH]
      exact ⟨y, rfl, HA.out.bad⟩
      -- n>
    | cons i t =>
      obtain ⟨hl1, hl2⟩ := hln i (by rw [hi]; simp)
      obtain ⟨b', tl', e1, e2, e3⟩ := rIt_parts i hl1
      have hd1 : U.data.toList.drop q = (sign i.k :: b') ++ 10 :: (tl' ++ (rIts t ++ rest)) := by rw [HD.out, rIts_cons, e1]; simp
      have hev := Rd.line_ev U q o y (d : Int) _ _ hU hd1 e2 _ (Nat.lt_succ_self _)
      have hLn := Rd.spec_reader_line.calls _ g _ _ _ _ _ _ _ _ _ _ _ w0 wr HA.out.rs.is HA.out.rs.bl hev
      have hd2 : U.data.toList.drop (q + (sign i.k :: b').length + 1) = tl' ++ (rIts t ++ rest) := by
        have := Rd.drop_more (a := (sign i.k :: b') ++ [10]) (r := tl' ++ (rIts t ++ rest)) (by rw [hd1]; simp)
        simpa [Nat.add_assoc] using this
      have hq1 := Rd.drop_size (a := (sign i.k :: b') ++ [10]) (r := tl' ++ (rIts t ++ rest)) (u := U) (p := q) (by rw [hd1]; simp) (by simp)
      simp only [List.length_append, List.length_cons, List.length_nil] at hq1
      obtain ⟨q1, hq2⟩ : ∃ q1, q1 = q + (sign i.k :: b').length + 1 := ⟨_, rfl⟩
      have hq3 : q1 ≤ U.size := by rw [hq2, List.length_cons]; omega
      rw [← hq2] at hd2 hLn
      have hb' : b'.length ≤ 1000000000000000 := by omega
      have hen := ended_both U q1 o y (d : Int) b' tl' i.l _ hU hq3 hd2 (rIts_head hrest) hb' e3
      obtain ⟨q3, hq4⟩ : ∃ q3, q3 = q1 + tl'.length := ⟨_, rfl⟩
      rw [← hq4] at hen
      have HEN := Aside0.mk hen
      have hq5 : q3 = q + (rIt i).length := by rw [hq4, hq2, e1]; simp; omega
      have hq6 : q3 + (rIts t).length = p + (rIts h.its).length := by rw [← hq, hq5, rIts_cons, List.length_append]; omega
      have hd3 : U.data.toList.drop q3 = rIts t ++ rest := by rw [hq5]; exact Rd.drop_more (by rw [HD.out, rIts_cons, List.append_assoc])
      have HD3 := Lib.hid hd3
      have hi3 : h.its = (pr ++ [i]) ++ t := by rw [hi]; simp
      have HI3 := Lib.hid hi3
      have HQ6 := Lib.hid hq6
      clear hd3 hi3 hq5 hq6
      obtain ⟨s, hs⟩ : ∃ s : ByteArray, s = ⟨(sign i.k :: b').toArray⟩ := ⟨_, rfl⟩
      rw [← hs] at hLn
      have s1 : 0 < s.size := by rw [hs]; simp [ByteArray.size]
      have s2 : s.toList.isEmpty = false := by rw [toList_data, hs]; rfl
      have s3 : s[0]'s1 = sign i.k := by subst hs; rfl
      have s4 : s.extract 1 s.size = mkS b' := by
        apply ByteArray.ext
        apply Array.ext'
        rw [ext_toList, mkS_toList, ← data_length, List.take_length, hs]
        rfl
      have HS := Lib.hid hs
      have HLN := Aside0.mk hLn
      have hfpi : fromC h.its = fromC pr + fromC (i :: t) := hfp
      have htpi : toC h.its = toC pr + toC (i :: t) := htp
      have HI := Lib.hid hi
      clear hen hs hLn hev hd1 hd2 hi
      go_upto_region 1 with fail
      go_cut [30] (fun v30 wx => v30 = .bool true ∧ wx = wr)
      case first => as_aux_lemma =>
        -- <a
        by_cases hlt : fromC pr < fromC h.its
        · clear hfp htp hfpi htpi
          go_wp2_with fail
          go_meet
          case rel => exact ⟨by first | rfl | simp [hlt], rfl⟩
        · have j2 : toC pr < toC h.its := by
            by_cases hk : i.k = 1
            · rw [toC_k t (by omega)] at htp; omega
            · rw [fromC_k t hk] at hfp; omega
          clear hfp htp hfpi htpi
          go_wp2_with fail
          go_meet
          case rel => exact ⟨by first | rfl | simp [hlt, j2], rfl⟩
        -- a>
      case rest =>
        obtain ⟨rfl, rfl⟩ := hcut
        go_upto_region 5 with (go_at_call 40; (with_reducible refine HLN.out.mono ?_); rintro e w5 ⟨rfl, hi5, hb5, hk5⟩; have HA5 := Aside0.mk (HA.out.call hi5 hb5 hk5); have c25 : w5.cell? ⟨g, 2, none⟩ = some (.bool false) := blk_cell HA5.out.rs.blk.1 2)
        go_cut [8, 9] (fun v8 v9 wx => v8 = .int .u8 ((sign i.k).toNat : Int) ∧ v9 = .string (mkS i.l) ∧ Aside0 (Bo w0 W wx g gh U o y0 y q3 d acc h a b))
        case first =>
          -- <b
          go_region_with (go_at_call 41; (with_reducible refine (Rd.spec_reader_ended.calls g _ _ _ _ _ _ _ _ _ _ _ _ w0 _ ?side1 ?side2 HEN.out).mono ?_); (case side1 => exact (HA5.out.keep (Fr.drew_ _ _)).rs.is); (case side2 => exact (HA5.out.keep (Fr.drew_ _ _)).rs.bl); rintro e w6 ⟨rfl, hi6, hb6, hk6⟩; have HA6 := Aside0.mk ((HA5.out.keep (Fr.drew_ _ _)).call hi6 hb6 hk6); clear hi6 hb6 hk6)
          all_goals (go_wp2_with fail; go_meet; exact ⟨by first | rfl | rw [s3], rfl, ⟨HA6.out⟩⟩)
          -- b>
        case rest => as_aux_lemma =>
          obtain ⟨rfl, rfl, HA6⟩ := hcut
          clear c2 f2 ch1 ch3 hq1 hq2 hq3 hq4
          clear HEN HA HLN
          obtain ⟨yA, yn, yc⟩ := y
          obtain rfl : yn = acc.length := HA6.out.rs.yn
          have cg := HA6.out.rs.blk.1
          have c2 : wc.cell? ⟨g, 2, none⟩ = some (.bool false) := blk_cell cg 2
          have c3 : wc.cell? ⟨g, 3, none⟩ = some (.slice o.A o.n o.c) := blk_cell cg 3
          have c4 : wc.cell? ⟨g, 4, none⟩ = some (.int .i64 (d : Int)) := blk_cell cg 4
          have c5 : wc.cell? ⟨g, 5, none⟩ = some (.slice yA acc.length yc) := blk_cell cg 5
          have f4 : wc.frozen? ⟨g, 4, none⟩ = false := blk_frozen cg 4
          have f5 : wc.frozen? ⟨g, 5, none⟩ = false := blk_frozen cg 5
          have k4 : wc.cell? ⟨gh, 4, none⟩ = some (.int .i64 (a : Int)) := blk_cell HA6.out.hb 4
          have k5 : wc.cell? ⟨gh, 5, none⟩ = some (.int .i64 (b : Int)) := blk_cell HA6.out.hb 5
          have z4 : wc.frozen? ⟨gh, 4, none⟩ = false := blk_frozen HA6.out.hb 4
          have z5 : wc.frozen? ⟨gh, 5, none⟩ = false := blk_frozen HA6.out.hb 5
          have hgne := HA6.out.ne
          have hlen : fromC h.its ≤ h.its.length ∧ toC h.its ≤ h.its.length := ⟨List.length_filter_le _ _, List.length_filter_le _ _⟩
          have hlp : pr.length ≤ h.its.length := by rw [HI3.out]; simp
          have hal := run_len HR.out
          have hR := HR.out
          have hH := HH.out
          unfold run at hR
          unfold ht at hH
          clear cg
          have hk3 : i.k = 0 ∨ i.k = 1 ∨ i.k = 2 := by omega
          rcases hk3 with hk | hk | hk
          · as_aux_lemma =>
            -- <1
            rw [if_neg (by omega)] at hR
            rw [if_neg (by omega)] at hH
            have hLd : L[d]? = some i.l := Classical.byContradiction fun hn => by rw [if_neg hn] at hR; cases hR
            rw [if_pos hLd, if_pos hk] at hR
            have hdl : d < L.length := (List.getElem?_eq_some_iff.1 hLd).1
            obtain ⟨go, oc, hv, hcl, _⟩ := own_get (HA6.out.old HO.out) d (.string (mkS i.l)) (by unfold rowS; rw [List.getElem?_map, hLd]; rfl)
            unfold pv at hv
            injection hv with hv1 hv2 hv3
            rw [hv1, hv2] at c3
            clear hv1 hv2 hv3
            have HB7 : Aside0 (∀ nq, Bo w0 W ((wc.drewN nq).setCell ⟨g, 4, none⟩ (.int .i64 ((d : Int) + 1))) g gh U o y0 ⟨yA, acc.length, yc⟩ q3 (d + 1) acc h a b) := ⟨fun nq => by rw [show (d : Int) + 1 = ((d + 1 : Nat) : Int) by omega]; exact (HA6.out.keep (Fr.drewN_ _ nq _)).done (d + 1)⟩
            have hsg : sign i.k = 45 := by unfold sign; rw [if_pos hk]
            rw [hsg]
            have HR2 := Lib.hid hR
            have HH2 := Lib.hid hH
            clear hR hH hLd
            go_wp2_with fail
            go_quiet (fail)
            go_wp2_with fail
            go_roundg t.length
            case rel =>
              exact ⟨pr ++ [i], t, d + 1, acc, _, q3, a, 0, true, HI3.out, rfl, by rw [fromC_append, fromC_k [] (by omega)]; go_num, by rw [toC_append, toC_k0 [] hk]; rfl, rfl, HQ6.out, by rw [List.length_append]; simp; omega, HR2, HH2, HD3, ⟨(HB7.out _).setH (a' := a) (b' := 0) 5 (.int .i64 0) (by rfl)⟩⟩
            case measure => simp
            -- 1>
          · as_aux_lemma =>
            -- <2
            rw [if_pos hk] at hR
            rw [if_neg (by omega)] at hH
            have hsg : sign i.k = 43 := by unfold sign; rw [if_neg (by omega), if_pos hk]
            rw [hsg]
            have HR2 := Lib.hid hR
            have HH2 := Lib.hid hH
            obtain ⟨iS, hiS, hzS0, hzS1, hzS2⟩ := info_parts info_string
            have hgs : g < wc.heap.size := (Array.getElem?_eq_some_iff.1 HA6.out.rs.blk.1).1
            have hws : w0.heap.size ≤ wc.heap.size := HA6.out.rs.bl.size
            have hneg : (Value.slice yA acc.length yc).ownBlock ≠ some g := own_ne_blk HA6.out.rs.out HA6.out.rs.blk.1 (by decide)
            clear hR hH
            go_wp2_with (at_builtin; refine wpList_append_lies _ (by rfl) (.tmp 104) (.tmp 106) 29 (by rfl) w0.heap.size 9 iS _ 1 16 Tryz.underlying29 hiS hzS0 hzS1 hzS2 (by rfl) (by decide) _ _ _ (by rfl) (own_alloc HA6.out.rs.out _) ⟨wc.heap.size, 0, none⟩ 1 1 [.string (mkS i.l)] (by rfl) (by rfl) ?h1 ?h2 ?h25 ?h3 ?h4 ?h5 _ rfl ?_; (case h1 => exact new_cells wc _ _); (case h2 => intro u hu; simp at hu; subst hu; rfl); (case h25 => decide); (case h3 => unfold maxLen; omega); (case h4 => omega); (case h5 => simp; omega); intro gg cap2 w1 hown1 hgrow hat hlt1; have B8 := HA6.out.push hw rfl (gr_drew' hgrow) hown1 (hat.imp id (fun h => h.trans (by simp))); have c8 := cell_after (gr_drew' hgrow) c5 hneg; have f8 := frz_after (gr_drew' hgrow) f5 hgs hneg; have f9 := blk_frozen B8.hb 5; have c9 := (blk_cell B8.hb 5).trans (show (hkB h a b)[5]? = some (.int .i64 (b : Int)) from rfl); have HB8 := Aside0.mk B8; clear hown1 hgrow hat B8)
            go_roundg t.length
            case rel =>
              have h8 := HB8.out.setH (a' := a) (b' := 0) 5 (.int .i64 0) (by rfl)
              exact ⟨pr ++ [i], t, d, acc ++ [i.l], _, q3, a, 0, true, HI3.out, rfl, by rw [fromC_append, fromC_k1 [] hk]; rfl, by rw [toC_append, toC_k [] (by omega)]; go_num, rfl, HQ6.out, by rw [List.length_append]; simp; omega, HR2, HH2, HD3, ⟨h8⟩⟩
            case measure => simp
            -- 2>
          · as_aux_lemma =>
            -- <3
            rw [if_neg (by omega)] at hR
            rw [if_pos hk] at hH
            have hLd : L[d]? = some i.l := Classical.byContradiction fun hn => by rw [if_neg hn] at hR; cases hR
            rw [if_pos hLd, if_neg (by omega)] at hR
            have hdl : d < L.length := (List.getElem?_eq_some_iff.1 hLd).1
            obtain ⟨go, oc, hv, hcl, _⟩ := own_get (HA6.out.old HO.out) d (.string (mkS i.l)) (by unfold rowS; rw [List.getElem?_map, hLd]; rfl)
            unfold pv at hv
            injection hv with hv1 hv2 hv3
            rw [hv1, hv2] at c3
            clear hv1 hv2 hv3
            have HB7 : Aside0 (∀ nq, Bo w0 W ((wc.drewN nq).setCell ⟨g, 4, none⟩ (.int .i64 ((d : Int) + 1))) g gh U o y0 ⟨yA, acc.length, yc⟩ q3 (d + 1) acc h a b) := ⟨fun nq => by rw [show (d : Int) + 1 = ((d + 1 : Nat) : Int) by omega]; exact (HA6.out.keep (Fr.drewN_ _ nq _)).done (d + 1)⟩
            have hsg : sign i.k = 32 := by unfold sign; rw [if_neg (by omega), if_neg (by omega)]
            rw [hsg]
            obtain ⟨iS, hiS, hzS0, hzS1, hzS2⟩ := info_parts info_string
            have HR2 := Lib.hid hR
            clear hR hLd
            go_upto_region 11 with fail
            go_quiet (fail)
            go_upto_region 11 with fail
            have HB7 := Aside0.mk (HB7.out nq)
            obtain ⟨wd, hwd⟩ : ∃ wd, wd = (wc.drewN nq).setCell ⟨g, 4, none⟩ (.int .i64 ((d : Int) + 1)) := ⟨_, rfl⟩
            rw [← hwd] at HB7 ⊢
            have HWD := Lib.hid hwd
            clear hwd c2 c3 c4 c5 f4 f5 hcl k4 k5 z4 z5
            have cg := HB7.out.rs.blk.1
            have c5 : wd.cell? ⟨g, 5, none⟩ = some (.slice yA acc.length yc) := blk_cell cg 5
            have f5 : wd.frozen? ⟨g, 5, none⟩ = false := blk_frozen cg 5
            have hgs : g < wd.heap.size := (Array.getElem?_eq_some_iff.1 cg).1
            have hws : w0.heap.size ≤ wd.heap.size := HB7.out.rs.bl.size
            have hneg : (Value.slice yA acc.length yc).ownBlock ≠ some g := own_ne_blk HB7.out.rs.out cg (by decide)
            clear cg
            go_upto_region 15 with (at_builtin; refine wpList_append_lies _ (by rfl) (.tmp 104) (.tmp 106) 29 (by rfl) w0.heap.size 9 iS _ 1 16 Tryz.underlying29 hiS hzS0 hzS1 hzS2 (by rfl) (by decide) _ _ _ (by rfl) (own_alloc HB7.out.rs.out _) ⟨wd.heap.size, 0, none⟩ 1 1 [.string (mkS i.l)] (by rfl) (by rfl) ?h1 ?h2 ?h25 ?h3 ?h4 ?h5 _ rfl ?_; (case h1 => exact new_cells wd _ _); (case h2 => intro u hu; simp at hu; subst hu; rfl); (case h25 => decide); (case h3 => unfold maxLen; omega); (case h4 => omega); (case h5 => simp; omega); intro gg cap2 w1 hown1 hgrow hat hlt1; have B8 := HB7.out.push hw rfl (gr_drew' hgrow) hown1 (hat.imp id (fun h => h.trans (by simp))); have c8 := cell_after (gr_drew' hgrow) c5 hneg; have f8 := frz_after (gr_drew' hgrow) f5 hgs hneg; have f9 := blk_frozen B8.hb 5; have f10 := blk_frozen B8.hb 4; have c9 := (blk_cell B8.hb 5).trans (show (hkB h a b)[5]? = some (.int .i64 (b : Int)) from rfl); have c10 := (blk_cell B8.hb 4).trans (show (hkB h a b)[4]? = some (.int .i64 (a : Int)) from rfl); have HB8 := Aside0.mk B8; clear hown1 hgrow hat B8)
            cases ch with
            | true =>
              have HH2 := Lib.hid hH
              clear hH
              go_wp2_with fail
              go_roundg t.length
              case rel =>
                have h8 := HB8.out.setH (a' := a) (b' := b + 1) 5 (.int .i64 ((b : Int) + 1)) (by unfold hkB; rw [show ((b + 1 : Nat) : Int) = (b : Int) + 1 by omega]; rfl)
                exact ⟨pr ++ [i], t, d + 1, acc ++ [i.l], _, q3, a, b + 1, true, HI3.out, rfl, by rw [fromC_append, fromC_k [] (by omega)]; go_num, by rw [toC_append, toC_k [] (by omega)]; go_num, rfl, HQ6.out, by rw [List.length_append]; simp; omega, HR2, HH2, HD3, ⟨h8⟩⟩
              case measure => simp
            | false =>
              have HH2 := Lib.hid hH
              clear hH
              go_wp2_with fail
              go_roundg t.length
              case rel =>
                have h8 := HB8.out.setH (a' := a + 1) (b' := b) 4 (.int .i64 ((a : Int) + 1)) (by unfold hkB; rw [show ((a + 1 : Nat) : Int) = (a : Int) + 1 by omega]; rfl)
                exact ⟨pr ++ [i], t, d + 1, acc ++ [i.l], _, q3, a + 1, b, false, HI3.out, rfl, by rw [fromC_append, fromC_k [] (by omega)]; go_num, by rw [toC_append, toC_k [] (by omega)]; go_num, rfl, HQ6.out, by rw [List.length_append]; simp; omega, HR2, HH2, HD3, ⟨h8⟩⟩
              case measure => simp
            -- 3>
end Go.Proofs.YtonajgipkpnpoaaGreatDoor.Un
