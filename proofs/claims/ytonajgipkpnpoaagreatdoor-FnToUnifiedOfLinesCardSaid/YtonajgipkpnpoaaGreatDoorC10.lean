/- The labels of an edit graph in memory: rows of numbers, each in a block of its own. The reader's state, its slices pinned; take, number: after the kit's printed text. -/
import Derived.Test.YtonajgipkpnpoaaGreatDoorProg
import Derived.WalkKit
import Derived.KernelRfl
import Derived.Lib.Hide
import Derived.OwnWalk
import Derived.Laws.MakeOwn
import Derived.Test.YtonajgipkpnpoaaGreatDoorC09
import Derived.Below
import Derived.Deep.Draws
import Derived.Deep.AppendLies
import Derived.Maps.AppendAt
import Derived.Laws.BytesArg
import Derived.Laws.OwnMore
import Derived.Deep.OwnRows
import Derived.Tactics
import Derived.Lib.ConvBytes
import Derived.Laws.Slices
import Derived.RowKit3
import Derived.Deep.LoopGhost
import Derived.Deep.QuietTactic
import Derived.BigQuiet
import Derived.WideLaws
import Derived.Deep.DeepCutAuto
import Derived.Deep.CutBlock
import Derived.Deep.RegionHeld3
import Derived.Laws.Rows
import Derived.Lib.AppendStr
import Derived.ArgAppend
import Derived.Laws.IdiomCopy
import Derived.OrdersHeld
import Derived.Laws.BitsLemmas
import Derived.RowKit
import Derived.Test.YtonajgipkpnpoaaGreatDoorC04
namespace Go.Proofs.YtonajgipkpnpoaaGreatDoor.Gr
open Go.RowKit Go.Proofs.YtonajgipkpnpoaaGreatDoorW.PrintWords
def rowOf (L : Nat → Nat → Int) (D : Nat) : Array Value := ((List.range (D + 1)).map fun j => Value.int .i64 (L D j)).toArray
theorem rowOf_get (L : Nat → Nat → Int) (D j : Nat) (h : j ≤ D) : (rowOf L D)[j]? = some (.int .i64 (L D j)) := by
  unfold rowOf
  rw [List.getElem?_toArray, List.getElem?_map, List.getElem?_range (by omega)]
  rfl
def setL (L : Nat → Nat → Int) (D j : Nat) (x : Int) : Nat → Nat → Int := fun d i => if d = D ∧ i = j then x else L d i
theorem rowOf_set (L : Nat → Nat → Int) (D j : Nat) (x : Int) : (rowOf L D).setIfInBounds j (.int .i64 x) = rowOf (setL L D j x) D := by
  apply Array.ext_getElem?
  intro i
  rw [Array.getElem?_setIfInBounds]
  by_cases hi : i ≤ D
  · rw [rowOf_get _ _ _ hi, rowOf_get _ _ _ hi]
    by_cases c : j = i
    · subst c
      rw [if_pos rfl, if_pos (by simp [rowOf]; omega)]
      simp [setL]
    · rw [if_neg c]
      simp [setL, Ne.symm c]
  · have h1 : (rowOf L D)[i]? = none := by simp [rowOf]; omega
    have h2 : (rowOf (setL L D j x) D)[i]? = none := by simp [rowOf]; omega
    rw [h1, h2]
    split
    · split
      · rename_i a b; subst a; simp [rowOf] at b; omega
      · rfl
    · rfl
theorem rowOf_other (L : Nat → Nat → Int) (D j d : Nat) (x : Int) (h : d ≠ D) : rowOf (setL L D j x) d = rowOf L d := by
  unfold rowOf setL
  simp [h]
structure TriD (W : World) (B : Nat) (F : Nat → Prop) (v : Value) (n : Nat) (L : Nat → Nat → Int) (len : Nat) (cs : List Value) (br : Nat → Nat) : Prop where
  own : W.ownsRow B 40 1 v len cs
  fo : ∀ k, v.ownBlock = some k → F k
  nl : n ≤ len
  nil_ : ∀ D, n ≤ D → D < len → cs[D]? = some (.slice none 0 0)
  row : ∀ D, D < n → F (br D) ∧ v.ownBlock ≠ some (br D) ∧ cs[D]? = some (.slice (some ⟨br D, 0, none⟩) (D + 1) (D + 1)) ∧ W.heap[br D]? = some (.cells (rowOf L D) 3 (0, 0))
  inj : ∀ D D', D < n → D' < n → br D = br D' → D = D'
  lo : ∀ k, F k → B ≤ k ∧ k < W.heap.size
def Tri (W : World) (B : Nat) (F : Nat → Prop) (v : Value) (n : Nat) (L : Nat → Nat → Int) : Prop := ∃ len cs br, TriD W B F v n L len cs br
theorem Tri.move {W W' : World} {B : Nat} {F : Nat → Prop} {v : Value} {n : Nat} {L : Nat → Nat → Int} (h : Tri W B F v n L) (hs : W.heap.size ≤ W'.heap.size) (hk : ∀ k, F k → W'.heap[k]? = W.heap[k]?) : Tri W' B F v n L := by
  obtain ⟨len, cs, br, h⟩ := h
  exact ⟨len, cs, br, own_move h.own (fun k ho => hk k (h.fo k ho)), h.fo, h.nl, h.nil_, fun D hD => ⟨(h.row D hD).1, (h.row D hD).2.1, (h.row D hD).2.2.1, (hk _ (h.row D hD).1).trans (h.row D hD).2.2.2⟩, h.inj, fun k hF => ⟨(h.lo k hF).1, Nat.lt_of_lt_of_le (h.lo k hF).2 hs⟩⟩
theorem Tri.below {W W' : World} {B : Nat} {F : Nat → Prop} {v : Value} {n : Nat} {L : Nat → Nat → Int} (h : Tri W B F v n L) (hb : Below W.heap.size W W') : Tri W' B F v n L :=
  h.move hb.size (fun k hF => hb.block k (by obtain ⟨_, _, _, h⟩ := h; exact (h.lo k hF).2))
theorem TriD.outer {W : World} {B : Nat} {F : Nat → Prop} {v : Value} {n : Nat} {L : Nat → Nat → Int} {len : Nat} {cs : List Value} {br : Nat → Nat} (h : TriD W B F v n L len cs br) (hl : 0 < len) :
    ∃ bo cap cur, v = .slice (some ⟨bo, 0, none⟩) len cap ∧ B ≤ bo ∧ W.heap[bo]? = some (.cells cur 40 (0, 0)) ∧ len ≤ cap ∧ cap ≤ maxLen ∧ cur.size = cap ∧ cur.toList.take len = cs := by
  rcases h.own.2 with ⟨_, hz⟩ | ⟨g, cap, cur, hv, hgb, hheap, hncap, hcapm, hcsz, htake⟩
  · omega
  · exact ⟨g, cap, cur, hv, hgb, hheap, hncap, hcapm, by simpa using hcsz, by simpa using htake⟩
theorem take_get {cur : Array Value} {len : Nat} {cs : List Value} (h : cur.toList.take len = cs) {D : Nat} {u : Value} (hu : cs[D]? = some u) : cur[D]? = some u := by
  rw [← h, List.getElem?_take] at hu
  split at hu
  · rwa [Array.getElem?_toList] at hu
  · cases hu
structure SetPost (W : World) (B ge c : Nat) (cs : Array Value) (F : Nat → Prop) (n : Nat) (L : Nat → Nat → Int) (D j : Nat) (x : Int) (W' : World) : Prop where
  os : W'.os = W.os
  tape : W'.tape = W.tape
  output : W'.output = W.output
  size : W.heap.size ≤ W'.heap.size
  keep : ∀ k, k < W.heap.size → k ≠ ge → ¬ F k → W'.heap[k]? = W.heap[k]?
  ex : ∃ v' F' L', W'.heap[ge]? = some (.cells (cs.setIfInBounds c v') 139 (0, 0)) ∧ Tri W' B F' v' (if D < n then n else D + 1) L' ∧ (∀ k, F' k → F k ∨ W.heap.size ≤ k) ∧ ¬ F' ge ∧
    L' D j = x ∧ (∀ d i, d < n → ¬ (d = D ∧ i = j) → L' d i = L d i)
end Go.Proofs.YtonajgipkpnpoaaGreatDoor.Gr
namespace Go.Proofs.YtonajgipkpnpoaaGreatDoor.PFnToUnifiedOfStrings
open Go.RowKit Go.Proofs.YtonajgipkpnpoaaGreatDoorW.PrintWords Go.Proofs.YtonajgipkpnpoaaGreatDoorW.PrintLast Go.Proofs.YtonajgipkpnpoaaGreatDoorW.PrintMore
set_option linter.unusedVariables false
set_option linter.unusedSimpArgs false
theorem info9 : (Tryz.prog.info? 9).map (fun i => (i.zero, i.size, i.bytes)) = some (some (.string ⟨#[]⟩), 1, 16) := by kernel_rfl
end Go.Proofs.YtonajgipkpnpoaaGreatDoor.PFnToUnifiedOfStrings
namespace Go.Proofs.YtonajgipkpnpoaaGreatDoor.Rd
open Go.RowKit Go.Proofs.YtonajgipkpnpoaaGreatDoorW.PrintWords Go.Proofs.YtonajgipkpnpoaaGreatDoorW.PrintLast Go.Proofs.YtonajgipkpnpoaaGreatDoorW.PrintMore
set_option linter.unusedVariables false
set_option linter.unusedSimpArgs false
structure Pin where
  A : Option Addr
  n : Nat
  c : Nat
def IsS43 (w0 W : World) (g : Nat) (f0 : ByteArray) (f1 : Int) (f2 : Bool) (f3 : Pin) (f4 : Int) (f5 : Pin) : Prop := ∃ A3 c3, ∃ A5 c5, W.heap[g]? = some (.cells #[.string f0, .int .i64 f1, .bool f2, .slice A3 f3.n c3, .int .i64 f4, .slice A5 f5.n c5] 43 (0, 0)) ∧ w0.heap.size ≤ g ∧ (A3 = f3.A ∧ c3 = f3.c) ∧ (A5 = f5.A ∧ c5 = f5.c)
theorem IsS43.grown {w0 W : World} {g : Nat} {f0 : ByteArray} {f1 : Int} {f2 : Bool} {f3 : Pin} {f4 : Int} {f5 : Pin} {W1 : World} {row : Option Nat} (h : IsS43 w0 W g f0 f1 f2 f3 f4 f5) (hw : W.grownBy W1 row) (hne : some g ≠ row) : IsS43 w0 W1 g f0 f1 f2 f3 f4 f5 := by
  obtain ⟨A3, c3, A5, c5, hb, hg, hr3, hr5⟩ := h
  exact ⟨A3, c3, A5, c5, blk_grown hb hw hne, hg, hr3, hr5⟩
theorem IsS43.below {w0 W : World} {g : Nat} {f0 : ByteArray} {f1 : Int} {f2 : Bool} {f3 : Pin} {f4 : Int} {f5 : Pin} {W1 : World} (h : IsS43 w0 W g f0 f1 f2 f3 f4 f5) (hw : Below W.heap.size W W1) : IsS43 w0 W1 g f0 f1 f2 f3 f4 f5 := h.grown (grown_of_below hw none) (by simp)
theorem IsS43.drewN {w0 W : World} {g : Nat} {f0 : ByteArray} {f1 : Int} {f2 : Bool} {f3 : Pin} {f4 : Int} {f5 : Pin} (h : IsS43 w0 W g f0 f1 f2 f3 f4 f5) (m : Nat) : IsS43 w0 (W.drewN m) g f0 f1 f2 f3 f4 f5 := h
theorem IsS43.lt {w0 W : World} {g : Nat} {f0 : ByteArray} {f1 : Int} {f2 : Bool} {f3 : Pin} {f4 : Int} {f5 : Pin} (h : IsS43 w0 W g f0 f1 f2 f3 f4 f5) : g < W.heap.size := by
  obtain ⟨A3, c3, A5, c5, hb, hg, hr3, hr5⟩ := h
  exact blk_lt hb
theorem IsS43.ge {w0 W : World} {g : Nat} {f0 : ByteArray} {f1 : Int} {f2 : Bool} {f3 : Pin} {f4 : Int} {f5 : Pin} (h : IsS43 w0 W g f0 f1 f2 f3 f4 f5) : w0.heap.size ≤ g := by
  obtain ⟨A3, c3, A5, c5, hb, hg, hr3, hr5⟩ := h
  exact hg
theorem IsS43.far {w0 W : World} {g : Nat} {f0 : ByteArray} {f1 : Int} {f2 : Bool} {f3 : Pin} {f4 : Int} {f5 : Pin} {p : Addr} (h : IsS43 w0 W g f0 f1 f2 f3 f4 f5) (hne : g ≠ p.block) (u : Value) : IsS43 w0 (W.setCell p u) g f0 f1 f2 f3 f4 f5 := by
  obtain ⟨A3, c3, A5, c5, hb, hg, hr3, hr5⟩ := h
  exact ⟨A3, c3, A5, c5, blk_far hb hne u, hg, hr3, hr5⟩
theorem cellS43_0 {W : World} {g : Nat} {A3 : Option Addr} {c3 : Nat} {A5 : Option Addr} {c5 : Nat} {f0 : ByteArray} {f1 : Int} {f2 : Bool} {f3 : Pin} {f4 : Int} {f5 : Pin} (h : W.heap[g]? = some (.cells #[.string f0, .int .i64 f1, .bool f2, .slice A3 f3.n c3, .int .i64 f4, .slice A5 f5.n c5] 43 (0, 0))) : W.cell? ⟨g, 0, none⟩ = some (.string f0) := (blk_cell h 0).trans rfl
theorem cellS43_1 {W : World} {g : Nat} {A3 : Option Addr} {c3 : Nat} {A5 : Option Addr} {c5 : Nat} {f0 : ByteArray} {f1 : Int} {f2 : Bool} {f3 : Pin} {f4 : Int} {f5 : Pin} (h : W.heap[g]? = some (.cells #[.string f0, .int .i64 f1, .bool f2, .slice A3 f3.n c3, .int .i64 f4, .slice A5 f5.n c5] 43 (0, 0))) : W.cell? ⟨g, 1, none⟩ = some (.int .i64 f1) := (blk_cell h 1).trans rfl
theorem IsS43.set_1 {w0 W : World} {g : Nat} {f0 : ByteArray} {f1 : Int} {f2 : Bool} {f3 : Pin} {f4 : Int} {f5 : Pin} (h : IsS43 w0 W g f0 f1 f2 f3 f4 f5) (x : Int) : IsS43 w0 (W.setCell ⟨g, 1, none⟩ (.int .i64 x)) g f0 x f2 f3 f4 f5 := by
  obtain ⟨A3, c3, A5, c5, hb, hg, hr3, hr5⟩ := h
  exact ⟨A3, c3, A5, c5, by simpa using blk_set hb 1 (.int .i64 x), hg, hr3, hr5⟩
theorem cellS43_2 {W : World} {g : Nat} {A3 : Option Addr} {c3 : Nat} {A5 : Option Addr} {c5 : Nat} {f0 : ByteArray} {f1 : Int} {f2 : Bool} {f3 : Pin} {f4 : Int} {f5 : Pin} (h : W.heap[g]? = some (.cells #[.string f0, .int .i64 f1, .bool f2, .slice A3 f3.n c3, .int .i64 f4, .slice A5 f5.n c5] 43 (0, 0))) : W.cell? ⟨g, 2, none⟩ = some (.bool f2) := (blk_cell h 2).trans rfl
theorem IsS43.set_2 {w0 W : World} {g : Nat} {f0 : ByteArray} {f1 : Int} {f2 : Bool} {f3 : Pin} {f4 : Int} {f5 : Pin} (h : IsS43 w0 W g f0 f1 f2 f3 f4 f5) (x : Bool) : IsS43 w0 (W.setCell ⟨g, 2, none⟩ (.bool x)) g f0 f1 x f3 f4 f5 := by
  obtain ⟨A3, c3, A5, c5, hb, hg, hr3, hr5⟩ := h
  exact ⟨A3, c3, A5, c5, by simpa using blk_set hb 2 (.bool x), hg, hr3, hr5⟩
theorem cellS43_3 {W : World} {g : Nat} {A3 : Option Addr} {c3 : Nat} {A5 : Option Addr} {c5 : Nat} {f0 : ByteArray} {f1 : Int} {f2 : Bool} {f3 : Pin} {f4 : Int} {f5 : Pin} (h : W.heap[g]? = some (.cells #[.string f0, .int .i64 f1, .bool f2, .slice A3 f3.n c3, .int .i64 f4, .slice A5 f5.n c5] 43 (0, 0))) : W.cell? ⟨g, 3, none⟩ = some (.slice A3 f3.n c3) := (blk_cell h 3).trans rfl
theorem cellS43_4 {W : World} {g : Nat} {A3 : Option Addr} {c3 : Nat} {A5 : Option Addr} {c5 : Nat} {f0 : ByteArray} {f1 : Int} {f2 : Bool} {f3 : Pin} {f4 : Int} {f5 : Pin} (h : W.heap[g]? = some (.cells #[.string f0, .int .i64 f1, .bool f2, .slice A3 f3.n c3, .int .i64 f4, .slice A5 f5.n c5] 43 (0, 0))) : W.cell? ⟨g, 4, none⟩ = some (.int .i64 f4) := (blk_cell h 4).trans rfl
theorem cellS43_5 {W : World} {g : Nat} {A3 : Option Addr} {c3 : Nat} {A5 : Option Addr} {c5 : Nat} {f0 : ByteArray} {f1 : Int} {f2 : Bool} {f3 : Pin} {f4 : Int} {f5 : Pin} (h : W.heap[g]? = some (.cells #[.string f0, .int .i64 f1, .bool f2, .slice A3 f3.n c3, .int .i64 f4, .slice A5 f5.n c5] 43 (0, 0))) : W.cell? ⟨g, 5, none⟩ = some (.slice A5 f5.n c5) := (blk_cell h 5).trans rfl
def spec_reader_take.f (s0_0 : ByteArray) (s0_1 : Int) (s0_2 : Bool) (s0_3 : Pin) (s0_4 : Int) (s0_5 : Pin) (a1 : ByteArray) : Option (ByteArray × Int × Bool × Int) := if (wrap64 ((s0_0.size : Int) - s0_1)) < (a1.size : Int) then (some (s0_0, s0_1, true, s0_4)) else (if 0 ≤ s0_1 then (if s0_1 ≤ (wrap64 (s0_1 + (a1.size : Int))) then (if (wrap64 (s0_1 + (a1.size : Int))) ≤ (s0_0.size : Int) then (if (s0_0.extract (s0_1 : Int).toNat ((wrap64 (s0_1 + (a1.size : Int))) : Int).toNat).toList = a1.toList then (some (s0_0, wrap64 (s0_1 + (a1.size : Int)), s0_2, s0_4)) else (some (s0_0, s0_1, true, s0_4))) else (none)) else (none)) else (none))
set_option maxHeartbeats 8000000 in
set_option maxRecDepth 100000 in
theorem spec_reader_take.calls (g : Nat) (s0_0 : ByteArray) (s0_1 : Int) (s0_2 : Bool) (s0_3 : Pin) (s0_4 : Int) (s0_5 : Pin) (a1 : ByteArray) (r1 : ByteArray) (r2 : Int) (r3 : Bool) (r4 : Int) (w0 w : World) (hI : IsS43 w0 w g s0_0 s0_1 s0_2 s0_3 s0_4 s0_5) (hB : Below w0.heap.size w0 w) (h : spec_reader_take.f s0_0 s0_1 s0_2 s0_3 s0_4 s0_5 a1 = some (r1, r2, r3, r4)) :
    Calls Tryz.prog 19 #[.pointer (some ⟨g, 0, none⟩), .string a1] w fun e w' => e = .returned (.tuple #[]) ∧ IsS43 w0 w' g r1 r2 r3 s0_3 r4 s0_5 ∧ Below w0.heap.size w0 w' ∧ KeepBut w w' g none := by
  have HI0 := Aside0.mk hI
  have HK := Aside0.mk (KeepBut.refl w g none)
  have HL := Aside0.mk hB.size
  clear hI
  have HW0 := Aside0.mk hB.size
  have HB := Aside0.mk hB
  clear hB
  have H : (if (wrap64 ((s0_0.size : Int) - s0_1)) < (a1.size : Int) then (some (s0_0, s0_1, true, s0_4)) else (if 0 ≤ s0_1 then (if s0_1 ≤ (wrap64 (s0_1 + (a1.size : Int))) then (if (wrap64 (s0_1 + (a1.size : Int))) ≤ (s0_0.size : Int) then (if (s0_0.extract (s0_1 : Int).toNat ((wrap64 (s0_1 + (a1.size : Int))) : Int).toNat).toList = a1.toList then (some (s0_0, wrap64 (s0_1 + (a1.size : Int)), s0_2, s0_4)) else (some (s0_0, s0_1, true, s0_4))) else (none)) else (none)) else (none))) = some (r1, r2, r3, r4) := h
  clear h
  by_cases c3 : (wrap64 ((s0_0.size : Int) - s0_1)) < (a1.size : Int)
  · rw [if_pos c3] at H
    have c3b0 : decide ((wrap64 ((s0_0.size : Int) - s0_1)) < (a1.size : Int)) = true := decide_eq_true c3
    clear c3
    simp only [Option.some.injEq, Prod.mk.injEq] at H
    obtain ⟨rfl, rfl, rfl, rfl⟩ := H
    obtain ⟨ASz4_3, cSz4_3, ASz4_5, cSz4_5, HGz4, hgz4, HSz4_3, HSz4_5⟩ := HI0.out
    have hcz4_0 := cellS43_0 HGz4
    have hcz4_1 := cellS43_1 HGz4
    have hcz4_2 := cellS43_2 HGz4
    have hcz4_3 := cellS43_3 HGz4
    have hcz4_4 := cellS43_4 HGz4
    have hcz4_5 := cellS43_5 HGz4
    have hfz4_0 := blk_frozen HGz4 0
    have hfz4_1 := blk_frozen HGz4 1
    have hfz4_2 := blk_frozen HGz4 2
    have hfz4_4 := blk_frozen HGz4 4
    clear HGz4 hgz4
    go_enter Tryz.func19, Tryz.ntmps19
    go_wp2
    repeat (go_quiet (fail); try go_wp2)
    first | go_end0 | ((try simp only [Exit.inBlock, Exit.then]); refine bodyPost_ret (results_none rfl _ _ _) rfl ?_)
    exact ⟨by first | rfl | (simp [errW_none, errW_some] <;> rfl) | (simp [*, errW_none, errW_some] <;> rfl), by repeat (first | (with_reducible first | exact HI0.out | apply IsS43.alloc | apply IsS43.drewN | apply IsS43.drew | apply IsS43.set_0 | apply IsS43.set_1 | apply IsS43.set_2 | apply IsS43.set_4) | exact HI0.out), by repeat (first | (with_reducible first | exact HB.out | apply below_alloc | apply pw_below_drewN | apply below_drew1 | refine below_set ?_ (IsS43.ge HI0.out)) | exact HB.out), by repeat (first | (with_reducible first | exact HK.out | apply KeepBut.set_ | apply keep_drewN | apply keep_drew | apply keep_alloc) | exact HK.out)⟩
  · rw [if_neg c3] at H
    have c3b0 : decide ((wrap64 ((s0_0.size : Int) - s0_1)) < (a1.size : Int)) = false := decide_eq_false c3
    clear c3
    by_cases c5 : 0 ≤ s0_1
    · rw [if_pos c5] at H
      have c5b0 := eq_true c5
      have c5b1 : decide (0 ≤ s0_1) = true := decide_eq_true c5
      clear c5
      by_cases c6 : s0_1 ≤ (wrap64 (s0_1 + (a1.size : Int)))
      · rw [if_pos c6] at H
        have c6b0 := eq_true c6
        have c6b1 : decide (s0_1 ≤ (wrap64 (s0_1 + (a1.size : Int)))) = true := decide_eq_true c6
        by_cases c7 : (wrap64 (s0_1 + (a1.size : Int))) ≤ (s0_0.size : Int)
        · rw [if_pos c7] at H
          have c7b0 := eq_true c7
          have c7b1 : decide ((wrap64 (s0_1 + (a1.size : Int))) ≤ (s0_0.size : Int)) = true := decide_eq_true c7
          by_cases c8 : (s0_0.extract (s0_1 : Int).toNat ((wrap64 (s0_1 + (a1.size : Int))) : Int).toNat).toList = a1.toList
          · rw [if_pos c8] at H
            have c8b0 : ((s0_0.extract (s0_1 : Int).toNat ((wrap64 (s0_1 + (a1.size : Int))) : Int).toNat).toList == a1.toList) = true := beq_iff_eq.mpr c8
            have c8b1 : ((s0_0.extract (s0_1 : Int).toNat ((wrap64 (s0_1 + (a1.size : Int))) : Int).toNat).toList != a1.toList) = false := bne_eq_false_iff_eq.mpr c8
            clear c8
            simp only [Option.some.injEq, Prod.mk.injEq] at H
            obtain ⟨rfl, rfl, rfl, rfl⟩ := H
            obtain ⟨ASz9_3, cSz9_3, ASz9_5, cSz9_5, HGz9, hgz9, HSz9_3, HSz9_5⟩ := HI0.out
            have hcz9_0 := cellS43_0 HGz9
            have hcz9_1 := cellS43_1 HGz9
            have hcz9_2 := cellS43_2 HGz9
            have hcz9_3 := cellS43_3 HGz9
            have hcz9_4 := cellS43_4 HGz9
            have hcz9_5 := cellS43_5 HGz9
            have hfz9_0 := blk_frozen HGz9 0
            have hfz9_1 := blk_frozen HGz9 1
            have hfz9_2 := blk_frozen HGz9 2
            have hfz9_4 := blk_frozen HGz9 4
            clear HGz9 hgz9
            go_enter Tryz.func19, Tryz.ntmps19
            go_wp2
            repeat (go_quiet (fail); try go_wp2)
            first | go_end0 | ((try simp only [Exit.inBlock, Exit.then]); refine bodyPost_ret (results_none rfl _ _ _) rfl ?_)
            exact ⟨by first | rfl | (simp [errW_none, errW_some] <;> rfl) | (simp [*, errW_none, errW_some] <;> rfl), by repeat (first | (with_reducible first | exact HI0.out | apply IsS43.alloc | apply IsS43.drewN | apply IsS43.drew | apply IsS43.set_0 | apply IsS43.set_1 | apply IsS43.set_2 | apply IsS43.set_4) | exact HI0.out), by repeat (first | (with_reducible first | exact HB.out | apply below_alloc | apply pw_below_drewN | apply below_drew1 | refine below_set ?_ (IsS43.ge HI0.out)) | exact HB.out), by repeat (first | (with_reducible first | exact HK.out | apply KeepBut.set_ | apply keep_drewN | apply keep_drew | apply keep_alloc) | exact HK.out)⟩
          · rw [if_neg c8] at H
            have c8b0 : ((s0_0.extract (s0_1 : Int).toNat ((wrap64 (s0_1 + (a1.size : Int))) : Int).toNat).toList == a1.toList) = false := beq_eq_false_iff_ne.mpr c8
            have c8b1 : ((s0_0.extract (s0_1 : Int).toNat ((wrap64 (s0_1 + (a1.size : Int))) : Int).toNat).toList != a1.toList) = true := bne_iff_ne.mpr c8
            simp only [Option.some.injEq, Prod.mk.injEq] at H
            obtain ⟨rfl, rfl, rfl, rfl⟩ := H
            obtain ⟨ASz10_3, cSz10_3, ASz10_5, cSz10_5, HGz10, hgz10, HSz10_3, HSz10_5⟩ := HI0.out
            have hcz10_0 := cellS43_0 HGz10
            have hcz10_1 := cellS43_1 HGz10
            have hcz10_2 := cellS43_2 HGz10
            have hcz10_3 := cellS43_3 HGz10
            have hcz10_4 := cellS43_4 HGz10
            have hcz10_5 := cellS43_5 HGz10
            have hfz10_0 := blk_frozen HGz10 0
            have hfz10_1 := blk_frozen HGz10 1
            have hfz10_2 := blk_frozen HGz10 2
            have hfz10_4 := blk_frozen HGz10 4
            clear HGz10 hgz10
            go_enter Tryz.func19, Tryz.ntmps19
            go_wp2
            repeat (go_quiet (fail); try go_wp2)
            first | go_end0 | ((try simp only [Exit.inBlock, Exit.then]); refine bodyPost_ret (results_none rfl _ _ _) rfl ?_)
            exact ⟨by first | rfl | (simp [errW_none, errW_some] <;> rfl) | (simp [*, errW_none, errW_some] <;> rfl), by repeat (first | (with_reducible first | exact HI0.out | apply IsS43.alloc | apply IsS43.drewN | apply IsS43.drew | apply IsS43.set_0 | apply IsS43.set_1 | apply IsS43.set_2 | apply IsS43.set_4) | exact HI0.out), by repeat (first | (with_reducible first | exact HB.out | apply below_alloc | apply pw_below_drewN | apply below_drew1 | refine below_set ?_ (IsS43.ge HI0.out)) | exact HB.out), by repeat (first | (with_reducible first | exact HK.out | apply KeepBut.set_ | apply keep_drewN | apply keep_drew | apply keep_alloc) | exact HK.out)⟩
        · rw [if_neg c7] at H
          exact absurd H (by simp)
      · rw [if_neg c6] at H
        exact absurd H (by simp)
    · rw [if_neg c5] at H
      exact absurd H (by simp)
mutual
def spec_reader_number.l0 : Nat → Int → Int → ByteArray → Int → Bool → Pin → Int → Pin → Option (Int × ByteArray × Int × Bool × Int)
  | 0, _, _, _, _, _, _, _, _ => none
  | k + 1, x3, x4, x1000, x1001, x1002, x1003, x1004, x1005 => if x1001 < (x1000.size : Int) then (if x4 < 18 then (if 0 ≤ x1001 then (if (bt x1000 x1001) ≥ 48 then (spec_reader_number.j1 k x3 x4 (decide ((bt x1000 x1001) ≤ 57)) x1000 x1001 x1002 x1003 x1004 x1005) else (spec_reader_number.j1 k x3 x4 false x1000 x1001 x1002 x1003 x1004 x1005)) else (none)) else (spec_reader_number.j1 k x3 x4 false x1000 x1001 x1002 x1003 x1004 x1005)) else (spec_reader_number.j1 k x3 x4 false x1000 x1001 x1002 x1003 x1004 x1005)
def spec_reader_number.j1 : Nat → Int → Int → Bool → ByteArray → Int → Bool → Pin → Int → Pin → Option (Int × ByteArray × Int × Bool × Int)
  | 0, _, _, _, _, _, _, _, _, _ => none
  | k + 1, x3, x4, x42, x1000, x1001, x1002, x1003, x1004, x1005 => if x42 = true then (if x4 > 0 then (if x3 = 0 then (if 0 ≤ x1001 then (if x1001 < (x1000.size : Int) then (spec_reader_number.l0 k (wrap64 ((wrap64 (10 * x3)) + (((bt x1000 x1001) - 48) % 256))) (wrap64 (x4 + 1)) x1000 (wrap64 (x1001 + 1)) true x1003 x1004 x1005) else (none)) else (none)) else (if 0 ≤ x1001 then (if x1001 < (x1000.size : Int) then (spec_reader_number.l0 k (wrap64 ((wrap64 (10 * x3)) + (((bt x1000 x1001) - 48) % 256))) (wrap64 (x4 + 1)) x1000 (wrap64 (x1001 + 1)) x1002 x1003 x1004 x1005) else (none)) else (none))) else (if 0 ≤ x1001 then (if x1001 < (x1000.size : Int) then (spec_reader_number.l0 k (wrap64 ((wrap64 (10 * x3)) + (((bt x1000 x1001) - 48) % 256))) (wrap64 (x4 + 1)) x1000 (wrap64 (x1001 + 1)) x1002 x1003 x1004 x1005) else (none)) else (none))) else (if x1002 = true then (some (x3, x1000, x1001, true, x1004)) else (some (x3, x1000, x1001, (x4 == 0), x1004)))
end
def spec_reader_number.f (k : Nat) (s0_0 : ByteArray) (s0_1 : Int) (s0_2 : Bool) (s0_3 : Pin) (s0_4 : Int) (s0_5 : Pin) : Option (Int × ByteArray × Int × Bool × Int) := spec_reader_number.l0 k 0 0 s0_0 s0_1 s0_2 s0_3 s0_4 s0_5
set_option maxHeartbeats 8000000 in
set_option maxRecDepth 100000 in
theorem spec_reader_number.calls (k : Nat) (g : Nat) (s0_0 : ByteArray) (s0_1 : Int) (s0_2 : Bool) (s0_3 : Pin) (s0_4 : Int) (s0_5 : Pin) (r1 : Int) (r2 : ByteArray) (r3 : Int) (r4 : Bool) (r5 : Int) (w0 w : World) (hI : IsS43 w0 w g s0_0 s0_1 s0_2 s0_3 s0_4 s0_5) (hB : Below w0.heap.size w0 w) (h : spec_reader_number.f k s0_0 s0_1 s0_2 s0_3 s0_4 s0_5 = some (r1, r2, r3, r4, r5)) :
    Calls Tryz.prog 54 #[.pointer (some ⟨g, 0, none⟩)] w fun e w' => e = .returned (.int .i64 r1) ∧ IsS43 w0 w' g r2 r3 r4 s0_3 r5 s0_5 ∧ Below w0.heap.size w0 w' ∧ KeepBut w w' g none := by
  have HI0 := Aside0.mk hI
  have HK := Aside0.mk (KeepBut.refl w g none)
  have HL := Aside0.mk hB.size
  clear hI
  have HW0 := Aside0.mk hB.size
  have HB := Aside0.mk hB
  clear hB
  have H : (spec_reader_number.l0 k 0 0 s0_0 s0_1 s0_2 s0_3 s0_4 s0_5) = some (r1, r2, r3, r4, r5) := h
  clear h
  have H' := Aside0.mk H
  clear H
  go_enter Tryz.func54, Tryz.ntmps54
  go_wp2
  repeat (go_quiet (fail); try go_wp2)
  go_loopg [3, 4] k (fun kq v3 v4 w' => ∃ (x3_1 : Int) (x4_1 : Int) (x1001_1 : Int) (x1002_1 : Bool), v3 = .int .i64 x3_1 ∧ v4 = .int .i64 x4_1 ∧ Aside0 (spec_reader_number.l0 kq x3_1 x4_1 s0_0 x1001_1 x1002_1 s0_3 s0_4 s0_5 = some (r1, r2, r3, r4, r5)) ∧ Aside0 (kq ≤ k) ∧ Aside0 (IsS43 w0 w' g s0_0 x1001_1 x1002_1 s0_3 s0_4 s0_5) ∧ Aside0 (KeepBut w w' g none) ∧ Aside0 (Below w0.heap.size w0 w'))
  case atStart => exact ⟨(0), (0), (s0_1), (s0_2), (by first | rfl | (simp; done) | (simp [*]; done)), (by first | rfl | (simp; done) | (simp [*]; done)), H', ⟨Nat.le_refl _⟩, ⟨by repeat (first | (with_reducible first | exact HI0.out | apply IsS43.alloc | apply IsS43.drewN | apply IsS43.drew | apply IsS43.set_0 | apply IsS43.set_1 | apply IsS43.set_2 | apply IsS43.set_4) | exact HI0.out)⟩, ⟨by repeat (first | (with_reducible first | exact HK.out | apply KeepBut.set_ | apply keep_drewN | apply keep_drew | apply keep_alloc) | exact HK.out)⟩, ⟨by repeat (first | (with_reducible first | exact HB.out | apply below_alloc | apply pw_below_drewN | apply below_drew1 | refine below_set ?_ (IsS43.ge HI0.out)) | exact HB.out)⟩⟩
  case round =>
    clear H'
    obtain ⟨x3_1, x4_1, x1001_1, x1002_1, rfl, rfl, HA, HK1, HI0, HK, HB⟩ := hrel
    cases gk with
    | zero => exact absurd HA.out (by simp [spec_reader_number.l0])
    | succ k1 =>
      have H := HA.out
      clear HA
      simp only [spec_reader_number.l0] at H
      have HC2 := Aside0.mk H
      clear H
      go_upto_region 2 with (fail)
      repeat (go_quiet (fail); go_upto_region 2 with (fail))
      go_cut [42] (fun v42 wc => ∃ (kq : Nat) (x42_1 : Bool), v42 = .bool x42_1 ∧ Aside0 (spec_reader_number.j1 kq x3_1 x4_1 x42_1 s0_0 x1001_1 x1002_1 s0_3 s0_4 s0_5 = some (r1, r2, r3, r4, r5)) ∧ Aside0 (kq ≤ k1) ∧ Aside0 (IsS43 w0 wc g s0_0 x1001_1 x1002_1 s0_3 s0_4 s0_5) ∧ Aside0 (KeepBut w wc g none) ∧ Aside0 (Below w0.heap.size w0 wc))
      case first =>
        have H := HC2.out
        clear HC2
        by_cases c3 : x1001_1 < (s0_0.size : Int)
        · rw [if_pos c3] at H
          have c3b0 : decide (x1001_1 < (s0_0.size : Int)) = true := decide_eq_true c3
          clear c3
          (first | rw [c3b0] | (simp only [i64_w, i32_w]; rw [c3b0]) | skip)
          by_cases c4 : x4_1 < 18
          · rw [if_pos c4] at H
            have c4b0 : decide (x4_1 < 18) = true := decide_eq_true c4
            clear c4
            by_cases c5 : 0 ≤ x1001_1
            · rw [if_pos c5] at H
              have c5b0 : decide (0 ≤ x1001_1) = true := decide_eq_true c5
              clear c5
              by_cases c7 : (bt s0_0 x1001_1) ≥ 48
              · rw [if_pos c7] at H
                have c7b0 : decide (48 ≤ (bt s0_0 x1001_1)) = true := decide_eq_true c7
                clear c7
                have H' := Aside0.mk H
                clear H
                obtain ⟨ASz9_3, cSz9_3, ASz9_5, cSz9_5, HGz9, hgz9, HSz9_3, HSz9_5⟩ := HI0.out
                have hcz9_0 := cellS43_0 HGz9
                have hcz9_1 := cellS43_1 HGz9
                have hcz9_2 := cellS43_2 HGz9
                have hcz9_3 := cellS43_3 HGz9
                have hcz9_4 := cellS43_4 HGz9
                have hcz9_5 := cellS43_5 HGz9
                have hfz9_0 := blk_frozen HGz9 0
                have hfz9_1 := blk_frozen HGz9 1
                have hfz9_2 := blk_frozen HGz9 2
                have hfz9_4 := blk_frozen HGz9 4
                clear HGz9 hgz9
                have p6 : 0 ≤ (x1001_1 : Int) := of_decide_eq_true (by first | (with_reducible assumption) | assumption)
                have q6 : x1001_1 < (s0_0.size : Int) := of_decide_eq_true (by first | (with_reducible assumption) | assumption)
                have hx6 := bt_at s0_0 x1001_1
                replace p6 := eq_true p6
                replace q6 := eq_true q6
                have p8 : 0 ≤ (x1001_1 : Int) := of_decide_eq_true (by first | (with_reducible assumption) | assumption)
                have q8 : x1001_1 < (s0_0.size : Int) := of_decide_eq_true (by first | (with_reducible assumption) | assumption)
                have hx8 := bt_at s0_0 x1001_1
                replace p8 := eq_true p8
                replace q8 := eq_true q8
                go_wp2
                repeat (go_quiet (fail); try go_wp2)
                go_meet
                case rel => exact ⟨_, (decide ((bt s0_0 x1001_1) ≤ 57)), (by first | rfl | (simp; done) | (simp [*]; done)), H', ⟨by have := HK1.out; first | omega | exact Nat.le_refl _⟩, ⟨by repeat (first | (with_reducible first | exact HI0.out | apply IsS43.alloc | apply IsS43.drewN | apply IsS43.drew | apply IsS43.set_0 | apply IsS43.set_1 | apply IsS43.set_2 | apply IsS43.set_4) | exact HI0.out)⟩, ⟨by repeat (first | (with_reducible first | exact HK.out | apply KeepBut.set_ | apply keep_drewN | apply keep_drew | apply keep_alloc) | exact HK.out)⟩, ⟨by repeat (first | (with_reducible first | exact HB.out | apply below_alloc | apply pw_below_drewN | apply below_drew1 | refine below_set ?_ (IsS43.ge HI0.out)) | exact HB.out)⟩⟩
              · rw [if_neg c7] at H
                have c7b0 : decide (48 ≤ (bt s0_0 x1001_1)) = false := decide_eq_false c7
                clear c7
                have H' := Aside0.mk H
                clear H
                obtain ⟨ASz10_3, cSz10_3, ASz10_5, cSz10_5, HGz10, hgz10, HSz10_3, HSz10_5⟩ := HI0.out
                have hcz10_0 := cellS43_0 HGz10
                have hcz10_1 := cellS43_1 HGz10
                have hcz10_2 := cellS43_2 HGz10
                have hcz10_3 := cellS43_3 HGz10
                have hcz10_4 := cellS43_4 HGz10
                have hcz10_5 := cellS43_5 HGz10
                have hfz10_0 := blk_frozen HGz10 0
                have hfz10_1 := blk_frozen HGz10 1
                have hfz10_2 := blk_frozen HGz10 2
                have hfz10_4 := blk_frozen HGz10 4
                clear HGz10 hgz10
                have p6 : 0 ≤ (x1001_1 : Int) := of_decide_eq_true (by first | (with_reducible assumption) | assumption)
                have q6 : x1001_1 < (s0_0.size : Int) := of_decide_eq_true (by first | (with_reducible assumption) | assumption)
                have hx6 := bt_at s0_0 x1001_1
                replace p6 := eq_true p6
                replace q6 := eq_true q6
                go_wp2
                repeat (go_quiet (fail); try go_wp2)
                go_meet
                case rel => exact ⟨_, (false), (by first | rfl | (simp; done) | (simp [*]; done)), H', ⟨by have := HK1.out; first | omega | exact Nat.le_refl _⟩, ⟨by repeat (first | (with_reducible first | exact HI0.out | apply IsS43.alloc | apply IsS43.drewN | apply IsS43.drew | apply IsS43.set_0 | apply IsS43.set_1 | apply IsS43.set_2 | apply IsS43.set_4) | exact HI0.out)⟩, ⟨by repeat (first | (with_reducible first | exact HK.out | apply KeepBut.set_ | apply keep_drewN | apply keep_drew | apply keep_alloc) | exact HK.out)⟩, ⟨by repeat (first | (with_reducible first | exact HB.out | apply below_alloc | apply pw_below_drewN | apply below_drew1 | refine below_set ?_ (IsS43.ge HI0.out)) | exact HB.out)⟩⟩
            · rw [if_neg c5] at H
              exact absurd H (by simp)
          · rw [if_neg c4] at H
            have c4b0 : decide (x4_1 < 18) = false := decide_eq_false c4
            clear c4
            have H' := Aside0.mk H
            clear H
            obtain ⟨ASz11_3, cSz11_3, ASz11_5, cSz11_5, HGz11, hgz11, HSz11_3, HSz11_5⟩ := HI0.out
            have hcz11_0 := cellS43_0 HGz11
            have hcz11_1 := cellS43_1 HGz11
            have hcz11_2 := cellS43_2 HGz11
            have hcz11_3 := cellS43_3 HGz11
            have hcz11_4 := cellS43_4 HGz11
            have hcz11_5 := cellS43_5 HGz11
            have hfz11_0 := blk_frozen HGz11 0
            have hfz11_1 := blk_frozen HGz11 1
            have hfz11_2 := blk_frozen HGz11 2
            have hfz11_4 := blk_frozen HGz11 4
            clear HGz11 hgz11
            go_wp2
            repeat (go_quiet (fail); try go_wp2)
            go_meet
            case rel => exact ⟨_, (false), (by first | rfl | (simp; done) | (simp [*]; done)), H', ⟨by have := HK1.out; first | omega | exact Nat.le_refl _⟩, ⟨by repeat (first | (with_reducible first | exact HI0.out | apply IsS43.alloc | apply IsS43.drewN | apply IsS43.drew | apply IsS43.set_0 | apply IsS43.set_1 | apply IsS43.set_2 | apply IsS43.set_4) | exact HI0.out)⟩, ⟨by repeat (first | (with_reducible first | exact HK.out | apply KeepBut.set_ | apply keep_drewN | apply keep_drew | apply keep_alloc) | exact HK.out)⟩, ⟨by repeat (first | (with_reducible first | exact HB.out | apply below_alloc | apply pw_below_drewN | apply below_drew1 | refine below_set ?_ (IsS43.ge HI0.out)) | exact HB.out)⟩⟩
        · rw [if_neg c3] at H
          have c3b0 : decide (x1001_1 < (s0_0.size : Int)) = false := decide_eq_false c3
          clear c3
          (first | rw [c3b0] | (simp only [i64_w, i32_w]; rw [c3b0]) | skip)
          have H' := Aside0.mk H
          clear H
          obtain ⟨ASz12_3, cSz12_3, ASz12_5, cSz12_5, HGz12, hgz12, HSz12_3, HSz12_5⟩ := HI0.out
          have hcz12_0 := cellS43_0 HGz12
          have hcz12_1 := cellS43_1 HGz12
          have hcz12_2 := cellS43_2 HGz12
          have hcz12_3 := cellS43_3 HGz12
          have hcz12_4 := cellS43_4 HGz12
          have hcz12_5 := cellS43_5 HGz12
          have hfz12_0 := blk_frozen HGz12 0
          have hfz12_1 := blk_frozen HGz12 1
          have hfz12_2 := blk_frozen HGz12 2
          have hfz12_4 := blk_frozen HGz12 4
          clear HGz12 hgz12
          go_wp2
          repeat (go_quiet (fail); try go_wp2)
          go_meet
          case rel => exact ⟨_, (false), (by first | rfl | (simp; done) | (simp [*]; done)), H', ⟨by have := HK1.out; first | omega | exact Nat.le_refl _⟩, ⟨by repeat (first | (with_reducible first | exact HI0.out | apply IsS43.alloc | apply IsS43.drewN | apply IsS43.drew | apply IsS43.set_0 | apply IsS43.set_1 | apply IsS43.set_2 | apply IsS43.set_4) | exact HI0.out)⟩, ⟨by repeat (first | (with_reducible first | exact HK.out | apply KeepBut.set_ | apply keep_drewN | apply keep_drew | apply keep_alloc) | exact HK.out)⟩, ⟨by repeat (first | (with_reducible first | exact HB.out | apply below_alloc | apply pw_below_drewN | apply below_drew1 | refine below_set ?_ (IsS43.ge HI0.out)) | exact HB.out)⟩⟩
      case rest =>
        clear HC2
        try clear p2
        try clear c3
        try clear c3b0
        try clear c4
        try clear c4b0
        try clear c5
        try clear c5b0
        try clear p6
        try clear q6
        try clear hx6
        try clear c7
        try clear c7b0
        try clear p8
        try clear q8
        try clear hx8
        try clear hcz10_0
        try clear hcz10_1
        try clear hcz10_2
        try clear hcz10_3
        try clear hcz10_4
        try clear hcz10_5
        try clear hcz11_0
        try clear hcz11_1
        try clear hcz11_2
        try clear hcz11_3
        try clear hcz11_4
        try clear hcz11_5
        try clear hcz12_0
        try clear hcz12_1
        try clear hcz12_2
        try clear hcz12_3
        try clear hcz12_4
        try clear hcz12_5
        try clear hcz9_0
        try clear hcz9_1
        try clear hcz9_2
        try clear hcz9_3
        try clear hcz9_4
        try clear hcz9_5
        try clear hfz10_0
        try clear hfz10_1
        try clear hfz10_2
        try clear hfz10_4
        try clear hfz11_0
        try clear hfz11_1
        try clear hfz11_2
        try clear hfz11_4
        try clear hfz12_0
        try clear hfz12_1
        try clear hfz12_2
        try clear hfz12_4
        try clear hfz9_0
        try clear hfz9_1
        try clear hfz9_2
        try clear hfz9_4
        try clear p6
        try clear p8
        try clear q6
        try clear q8
        obtain ⟨kq, x42_1, rfl, HA, HJ1, HI0, HK, HB⟩ := hcut
        cases kq with
        | zero => exact absurd HA.out (by simp [spec_reader_number.j1])
        | succ kj1 =>
          have H := HA.out
          clear HA
          simp only [spec_reader_number.j1] at H
          by_cases c13 : x42_1 = true
          · subst c13
            have H1 : (if x4_1 > 0 then (if x3_1 = 0 then (if 0 ≤ x1001_1 then (if x1001_1 < (s0_0.size : Int) then (spec_reader_number.l0 kj1 (wrap64 ((wrap64 (10 * x3_1)) + (((bt s0_0 x1001_1) - 48) % 256))) (wrap64 (x4_1 + 1)) s0_0 (wrap64 (x1001_1 + 1)) true s0_3 s0_4 s0_5) else (none)) else (none)) else (if 0 ≤ x1001_1 then (if x1001_1 < (s0_0.size : Int) then (spec_reader_number.l0 kj1 (wrap64 ((wrap64 (10 * x3_1)) + (((bt s0_0 x1001_1) - 48) % 256))) (wrap64 (x4_1 + 1)) s0_0 (wrap64 (x1001_1 + 1)) x1002_1 s0_3 s0_4 s0_5) else (none)) else (none))) else (if 0 ≤ x1001_1 then (if x1001_1 < (s0_0.size : Int) then (spec_reader_number.l0 kj1 (wrap64 ((wrap64 (10 * x3_1)) + (((bt s0_0 x1001_1) - 48) % 256))) (wrap64 (x4_1 + 1)) s0_0 (wrap64 (x1001_1 + 1)) x1002_1 s0_3 s0_4 s0_5) else (none)) else (none))) = some (r1, r2, r3, r4, r5) := by rw [if_pos rfl] at H; exact H
            clear H
            have H := H1
            clear H1
            by_cases c14 : x4_1 > 0
            · rw [if_pos c14] at H
              have c14b0 : decide (0 < x4_1) = true := decide_eq_true c14
              clear c14
              by_cases c15 : x3_1 = 0
              · rw [if_pos c15] at H
                have c15b0 : (x3_1 == 0) = true := beq_iff_eq.mpr c15
                have c15b1 : (x3_1 != 0) = false := bne_eq_false_iff_eq.mpr c15
                clear c15
                by_cases c16 : 0 ≤ x1001_1
                · rw [if_pos c16] at H
                  have c16b0 : decide (0 ≤ x1001_1) = true := decide_eq_true c16
                  clear c16
                  by_cases c17 : x1001_1 < (s0_0.size : Int)
                  · rw [if_pos c17] at H
                    have c17b0 : decide (x1001_1 < (s0_0.size : Int)) = true := decide_eq_true c17
                    clear c17
                    have H' := Aside0.mk H
                    clear H
                    obtain ⟨ASz19_3, cSz19_3, ASz19_5, cSz19_5, HGz19, hgz19, HSz19_3, HSz19_5⟩ := HI0.out
                    have hcz19_0 := cellS43_0 HGz19
                    have hcz19_1 := cellS43_1 HGz19
                    have hcz19_2 := cellS43_2 HGz19
                    have hcz19_3 := cellS43_3 HGz19
                    have hcz19_4 := cellS43_4 HGz19
                    have hcz19_5 := cellS43_5 HGz19
                    have hfz19_0 := blk_frozen HGz19 0
                    have hfz19_1 := blk_frozen HGz19 1
                    have hfz19_2 := blk_frozen HGz19 2
                    have hfz19_4 := blk_frozen HGz19 4
                    clear HGz19 hgz19
                    have p18 : 0 ≤ (x1001_1 : Int) := of_decide_eq_true (by first | (with_reducible assumption) | assumption)
                    have q18 : x1001_1 < (s0_0.size : Int) := of_decide_eq_true (by first | (with_reducible assumption) | assumption)
                    have hx18 := bt_at s0_0 x1001_1
                    replace p18 := eq_true p18
                    replace q18 := eq_true q18
                    go_wp2
                    repeat (go_quiet (fail); try go_wp2)
                    go_roundg kj1
                    case measure => have := HK1.out; have := HJ1.out; omega
                    case rel => exact ⟨(wrap64 ((wrap64 (10 * x3_1)) + (((bt s0_0 x1001_1) - 48) % 256))), (wrap64 (x4_1 + 1)), (wrap64 (x1001_1 + 1)), (true), (by first | rfl | (simp; done) | (simp [*]; done)), (by first | rfl | (simp; done) | (simp [*]; done)), H', ⟨by have := HK1.out; have := HJ1.out; omega⟩, ⟨by repeat (first | (with_reducible first | exact HI0.out | apply IsS43.alloc | apply IsS43.drewN | apply IsS43.drew | apply IsS43.set_0 | apply IsS43.set_1 | apply IsS43.set_2 | apply IsS43.set_4) | exact HI0.out)⟩, ⟨by repeat (first | (with_reducible first | exact HK.out | apply KeepBut.set_ | apply keep_drewN | apply keep_drew | apply keep_alloc) | exact HK.out)⟩, ⟨by repeat (first | (with_reducible first | exact HB.out | apply below_alloc | apply pw_below_drewN | apply below_drew1 | refine below_set ?_ (IsS43.ge HI0.out)) | exact HB.out)⟩⟩
                  · rw [if_neg c17] at H
                    exact absurd H (by simp)
                · rw [if_neg c16] at H
                  exact absurd H (by simp)
              · rw [if_neg c15] at H
                have c15b0 : (x3_1 == 0) = false := beq_eq_false_iff_ne.mpr c15
                have c15b1 : (x3_1 != 0) = true := bne_iff_ne.mpr c15
                by_cases c20 : 0 ≤ x1001_1
                · rw [if_pos c20] at H
                  have c20b0 : decide (0 ≤ x1001_1) = true := decide_eq_true c20
                  clear c20
                  by_cases c21 : x1001_1 < (s0_0.size : Int)
                  · rw [if_pos c21] at H
                    have c21b0 : decide (x1001_1 < (s0_0.size : Int)) = true := decide_eq_true c21
                    clear c21
                    have H' := Aside0.mk H
                    clear H
                    obtain ⟨ASz23_3, cSz23_3, ASz23_5, cSz23_5, HGz23, hgz23, HSz23_3, HSz23_5⟩ := HI0.out
                    have hcz23_0 := cellS43_0 HGz23
                    have hcz23_1 := cellS43_1 HGz23
                    have hcz23_2 := cellS43_2 HGz23
                    have hcz23_3 := cellS43_3 HGz23
                    have hcz23_4 := cellS43_4 HGz23
                    have hcz23_5 := cellS43_5 HGz23
                    have hfz23_0 := blk_frozen HGz23 0
                    have hfz23_1 := blk_frozen HGz23 1
                    have hfz23_2 := blk_frozen HGz23 2
                    have hfz23_4 := blk_frozen HGz23 4
                    clear HGz23 hgz23
                    have p22 : 0 ≤ (x1001_1 : Int) := of_decide_eq_true (by first | (with_reducible assumption) | assumption)
                    have q22 : x1001_1 < (s0_0.size : Int) := of_decide_eq_true (by first | (with_reducible assumption) | assumption)
                    have hx22 := bt_at s0_0 x1001_1
                    replace p22 := eq_true p22
                    replace q22 := eq_true q22
                    go_wp2
                    repeat (go_quiet (fail); try go_wp2)
                    go_roundg kj1
                    case measure => have := HK1.out; have := HJ1.out; omega
                    case rel => exact ⟨(wrap64 ((wrap64 (10 * x3_1)) + (((bt s0_0 x1001_1) - 48) % 256))), (wrap64 (x4_1 + 1)), (wrap64 (x1001_1 + 1)), (x1002_1), (by first | rfl | (simp; done) | (simp [*]; done)), (by first | rfl | (simp; done) | (simp [*]; done)), H', ⟨by have := HK1.out; have := HJ1.out; omega⟩, ⟨by repeat (first | (with_reducible first | exact HI0.out | apply IsS43.alloc | apply IsS43.drewN | apply IsS43.drew | apply IsS43.set_0 | apply IsS43.set_1 | apply IsS43.set_2 | apply IsS43.set_4) | exact HI0.out)⟩, ⟨by repeat (first | (with_reducible first | exact HK.out | apply KeepBut.set_ | apply keep_drewN | apply keep_drew | apply keep_alloc) | exact HK.out)⟩, ⟨by repeat (first | (with_reducible first | exact HB.out | apply below_alloc | apply pw_below_drewN | apply below_drew1 | refine below_set ?_ (IsS43.ge HI0.out)) | exact HB.out)⟩⟩
                  · rw [if_neg c21] at H
                    exact absurd H (by simp)
                · rw [if_neg c20] at H
                  exact absurd H (by simp)
            · rw [if_neg c14] at H
              have c14b0 : decide (0 < x4_1) = false := decide_eq_false c14
              clear c14
              by_cases c24 : 0 ≤ x1001_1
              · rw [if_pos c24] at H
                have c24b0 : decide (0 ≤ x1001_1) = true := decide_eq_true c24
                clear c24
                by_cases c25 : x1001_1 < (s0_0.size : Int)
                · rw [if_pos c25] at H
                  have c25b0 : decide (x1001_1 < (s0_0.size : Int)) = true := decide_eq_true c25
                  clear c25
                  have H' := Aside0.mk H
                  clear H
                  obtain ⟨ASz27_3, cSz27_3, ASz27_5, cSz27_5, HGz27, hgz27, HSz27_3, HSz27_5⟩ := HI0.out
                  have hcz27_0 := cellS43_0 HGz27
                  have hcz27_1 := cellS43_1 HGz27
                  have hcz27_2 := cellS43_2 HGz27
                  have hcz27_3 := cellS43_3 HGz27
                  have hcz27_4 := cellS43_4 HGz27
                  have hcz27_5 := cellS43_5 HGz27
                  have hfz27_0 := blk_frozen HGz27 0
                  have hfz27_1 := blk_frozen HGz27 1
                  have hfz27_2 := blk_frozen HGz27 2
                  have hfz27_4 := blk_frozen HGz27 4
                  clear HGz27 hgz27
                  have p26 : 0 ≤ (x1001_1 : Int) := of_decide_eq_true (by first | (with_reducible assumption) | assumption)
                  have q26 : x1001_1 < (s0_0.size : Int) := of_decide_eq_true (by first | (with_reducible assumption) | assumption)
                  have hx26 := bt_at s0_0 x1001_1
                  replace p26 := eq_true p26
                  replace q26 := eq_true q26
                  go_wp2
                  repeat (go_quiet (fail); try go_wp2)
                  go_roundg kj1
                  case measure => have := HK1.out; have := HJ1.out; omega
                  case rel => exact ⟨(wrap64 ((wrap64 (10 * x3_1)) + (((bt s0_0 x1001_1) - 48) % 256))), (wrap64 (x4_1 + 1)), (wrap64 (x1001_1 + 1)), (x1002_1), (by first | rfl | (simp; done) | (simp [*]; done)), (by first | rfl | (simp; done) | (simp [*]; done)), H', ⟨by have := HK1.out; have := HJ1.out; omega⟩, ⟨by repeat (first | (with_reducible first | exact HI0.out | apply IsS43.alloc | apply IsS43.drewN | apply IsS43.drew | apply IsS43.set_0 | apply IsS43.set_1 | apply IsS43.set_2 | apply IsS43.set_4) | exact HI0.out)⟩, ⟨by repeat (first | (with_reducible first | exact HK.out | apply KeepBut.set_ | apply keep_drewN | apply keep_drew | apply keep_alloc) | exact HK.out)⟩, ⟨by repeat (first | (with_reducible first | exact HB.out | apply below_alloc | apply pw_below_drewN | apply below_drew1 | refine below_set ?_ (IsS43.ge HI0.out)) | exact HB.out)⟩⟩
                · rw [if_neg c25] at H
                  exact absurd H (by simp)
              · rw [if_neg c24] at H
                exact absurd H (by simp)
          · replace c13 := Bool.eq_false_iff.mpr c13
            subst c13
            have H1 : (if x1002_1 = true then (some (x3_1, s0_0, x1001_1, true, s0_4)) else (some (x3_1, s0_0, x1001_1, (x4_1 == 0), s0_4))) = some (r1, r2, r3, r4, r5) := by rw [if_neg (show ¬ (false = true) by decide)] at H; exact H
            clear H
            have H := H1
            clear H1
            by_cases c28 : x1002_1 = true
            · subst c28
              have H1 : (some (x3_1, s0_0, x1001_1, true, s0_4)) = some (r1, r2, r3, r4, r5) := by rw [if_pos rfl] at H; exact H
              clear H
              have H := H1
              clear H1
              simp only [Option.some.injEq, Prod.mk.injEq] at H
              obtain ⟨rfl, rfl, rfl, rfl, rfl⟩ := H
              obtain ⟨ASz29_3, cSz29_3, ASz29_5, cSz29_5, HGz29, hgz29, HSz29_3, HSz29_5⟩ := HI0.out
              have hcz29_0 := cellS43_0 HGz29
              have hcz29_1 := cellS43_1 HGz29
              have hcz29_2 := cellS43_2 HGz29
              have hcz29_3 := cellS43_3 HGz29
              have hcz29_4 := cellS43_4 HGz29
              have hcz29_5 := cellS43_5 HGz29
              have hfz29_0 := blk_frozen HGz29 0
              have hfz29_1 := blk_frozen HGz29 1
              have hfz29_2 := blk_frozen HGz29 2
              have hfz29_4 := blk_frozen HGz29 4
              clear HGz29 hgz29
              go_wp2
              repeat (go_quiet (fail); try go_wp2)
              go_ret
              exact ⟨by first | rfl | (simp [errW_none, errW_some] <;> rfl) | (simp [*, errW_none, errW_some] <;> rfl), by repeat (first | (with_reducible first | exact HI0.out | apply IsS43.alloc | apply IsS43.drewN | apply IsS43.drew | apply IsS43.set_0 | apply IsS43.set_1 | apply IsS43.set_2 | apply IsS43.set_4) | exact HI0.out), by repeat (first | (with_reducible first | exact HB.out | apply below_alloc | apply pw_below_drewN | apply below_drew1 | refine below_set ?_ (IsS43.ge HI0.out)) | exact HB.out), by repeat (first | (with_reducible first | exact HK.out | apply KeepBut.set_ | apply keep_drewN | apply keep_drew | apply keep_alloc) | exact HK.out)⟩
            · replace c28 := Bool.eq_false_iff.mpr c28
              subst c28
              have H1 : (some (x3_1, s0_0, x1001_1, (x4_1 == 0), s0_4)) = some (r1, r2, r3, r4, r5) := by rw [if_neg (show ¬ (false = true) by decide)] at H; exact H
              clear H
              have H := H1
              clear H1
              simp only [Option.some.injEq, Prod.mk.injEq] at H
              obtain ⟨rfl, rfl, rfl, rfl, rfl⟩ := H
              obtain ⟨ASz30_3, cSz30_3, ASz30_5, cSz30_5, HGz30, hgz30, HSz30_3, HSz30_5⟩ := HI0.out
              have hcz30_0 := cellS43_0 HGz30
              have hcz30_1 := cellS43_1 HGz30
              have hcz30_2 := cellS43_2 HGz30
              have hcz30_3 := cellS43_3 HGz30
              have hcz30_4 := cellS43_4 HGz30
              have hcz30_5 := cellS43_5 HGz30
              have hfz30_0 := blk_frozen HGz30 0
              have hfz30_1 := blk_frozen HGz30 1
              have hfz30_2 := blk_frozen HGz30 2
              have hfz30_4 := blk_frozen HGz30 4
              clear HGz30 hgz30
              go_wp2
              repeat (go_quiet (fail); try go_wp2)
              go_ret
              exact ⟨by first | rfl | (simp [errW_none, errW_some] <;> rfl) | (simp [*, errW_none, errW_some] <;> rfl), by repeat (first | (with_reducible first | exact HI0.out | apply IsS43.alloc | apply IsS43.drewN | apply IsS43.drew | apply IsS43.set_0 | apply IsS43.set_1 | apply IsS43.set_2 | apply IsS43.set_4) | exact HI0.out), by repeat (first | (with_reducible first | exact HB.out | apply below_alloc | apply pw_below_drewN | apply below_drew1 | refine below_set ?_ (IsS43.ge HI0.out)) | exact HB.out), by repeat (first | (with_reducible first | exact HK.out | apply KeepBut.set_ | apply keep_drewN | apply keep_drew | apply keep_alloc) | exact HK.out)⟩
end Go.Proofs.YtonajgipkpnpoaaGreatDoor.Rd
