/- The labels of an edit graph in memory: rows of numbers, each in a block of its own. -/
import Derived.Test.YtonajgipkpnpoaaProg
import Derived.WalkKit
import Derived.KernelRfl
import Derived.Lib.Hide
import Derived.OwnWalk
import Derived.Laws.MakeOwn
import Derived.Test.YtonajgipkpnpoaaWWords
namespace Go.Proofs.Ytonajgipkpnpoaa.Gr
open Go.RowKit Go.Proofs.YtonajgipkpnpoaaW.PrintWords

/-- the cells of level D -/
def rowOf (L : Nat → Nat → Int) (D : Nat) : Array Value := ((List.range (D + 1)).map fun j => Value.int .i64 (L D j)).toArray

theorem rowOf_get (L : Nat → Nat → Int) (D j : Nat) (h : j ≤ D) : (rowOf L D)[j]? = some (.int .i64 (L D j)) := by
  unfold rowOf
  rw [List.getElem?_toArray, List.getElem?_map, List.getElem?_range (by omega)]
  rfl

def setL (L : Nat → Nat → Int) (D j : Nat) (x : Int) : Nat → Nat → Int := fun d i => if d = D ∧ i = j then x else L d i

theorem rowOf_set (L : Nat → Nat → Int) (D j : Nat) (x : Int) : (rowOf L D).setIfInBounds j (.int .i64 x) = rowOf (setL L D j x) D := by
  apply Array.ext_getElem?
  intro i
  rw [Array.getElem?_setIfInBounds]
  by_cases hi : i ≤ D
  · rw [rowOf_get _ _ _ hi, rowOf_get _ _ _ hi]
    by_cases c : j = i
    · subst c
      rw [if_pos rfl, if_pos (by simp [rowOf]; omega)]
      simp [setL]
    · rw [if_neg c]
      simp [setL, Ne.symm c]
  · have h1 : (rowOf L D)[i]? = none := by simp [rowOf]; omega
    have h2 : (rowOf (setL L D j x) D)[i]? = none := by simp [rowOf]; omega
    rw [h1, h2]
    split
    · split
      · rename_i a b; subst a; simp [rowOf] at b; omega
      · rfl
    · rfl

theorem rowOf_other (L : Nat → Nat → Int) (D j d : Nat) (x : Int) (h : d ≠ D) : rowOf (setL L D j x) d = rowOf L d := by
  unfold rowOf setL
  simp [h]

/-- Rows of labels in memory: v the outer slice, n levels are there; F: the blocks. -/
structure TriD (W : World) (B : Nat) (F : Nat → Prop) (v : Value) (n : Nat) (L : Nat → Nat → Int) (len : Nat) (cs : List Value) (br : Nat → Nat) : Prop where
  own : W.ownsRow B 36 1 v len cs
  fo : ∀ k, v.ownBlock = some k → F k
  nl : n ≤ len
  nil_ : ∀ D, n ≤ D → D < len → cs[D]? = some (.slice none 0 0)
  row : ∀ D, D < n → F (br D) ∧ v.ownBlock ≠ some (br D) ∧ cs[D]? = some (.slice (some ⟨br D, 0, none⟩) (D + 1) (D + 1)) ∧ W.heap[br D]? = some (.cells (rowOf L D) 3 (0, 0))
  inj : ∀ D D', D < n → D' < n → br D = br D' → D = D'
  lo : ∀ k, F k → B ≤ k ∧ k < W.heap.size

def Tri (W : World) (B : Nat) (F : Nat → Prop) (v : Value) (n : Nat) (L : Nat → Nat → Int) : Prop := ∃ len cs br, TriD W B F v n L len cs br

theorem Tri.move {W W' : World} {B : Nat} {F : Nat → Prop} {v : Value} {n : Nat} {L : Nat → Nat → Int} (h : Tri W B F v n L) (hs : W.heap.size ≤ W'.heap.size) (hk : ∀ k, F k → W'.heap[k]? = W.heap[k]?) : Tri W' B F v n L := by
  obtain ⟨len, cs, br, h⟩ := h
  exact ⟨len, cs, br, own_move h.own (fun k ho => hk k (h.fo k ho)), h.fo, h.nl, h.nil_, fun D hD => ⟨(h.row D hD).1, (h.row D hD).2.1, (h.row D hD).2.2.1, (hk _ (h.row D hD).1).trans (h.row D hD).2.2.2⟩, h.inj, fun k hF => ⟨(h.lo k hF).1, Nat.lt_of_lt_of_le (h.lo k hF).2 hs⟩⟩

theorem Tri.below {W W' : World} {B : Nat} {F : Nat → Prop} {v : Value} {n : Nat} {L : Nat → Nat → Int} (h : Tri W B F v n L) (hb : Below W.heap.size W W') : Tri W' B F v n L :=
  h.move hb.size (fun k hF => hb.block k (by obtain ⟨_, _, _, h⟩ := h; exact (h.lo k hF).2))

/-- the outer slice's cells -/
theorem TriD.outer {W : World} {B : Nat} {F : Nat → Prop} {v : Value} {n : Nat} {L : Nat → Nat → Int} {len : Nat} {cs : List Value} {br : Nat → Nat} (h : TriD W B F v n L len cs br) (hl : 0 < len) :
    ∃ bo cap cur, v = .slice (some ⟨bo, 0, none⟩) len cap ∧ B ≤ bo ∧ W.heap[bo]? = some (.cells cur 36 (0, 0)) ∧ len ≤ cap ∧ cap ≤ maxLen ∧ cur.size = cap ∧ cur.toList.take len = cs := by
  rcases h.own.2 with ⟨_, hz⟩ | ⟨g, cap, cur, hv, hgb, hheap, hncap, hcapm, hcsz, htake⟩
  · omega
  · exact ⟨g, cap, cur, hv, hgb, hheap, hncap, hcapm, by simpa using hcsz, by simpa using htake⟩

theorem take_get {cur : Array Value} {len : Nat} {cs : List Value} (h : cur.toList.take len = cs) {D : Nat} {u : Value} (hu : cs[D]? = some u) : cur[D]? = some u := by
  rw [← h, List.getElem?_take] at hu
  split at hu
  · rwa [Array.getElem?_toList] at hu
  · cases hu

/-- what a store of a label leaves -/
structure SetPost (W : World) (B ge c : Nat) (cs : Array Value) (F : Nat → Prop) (n : Nat) (L : Nat → Nat → Int) (D j : Nat) (x : Int) (W' : World) : Prop where
  os : W'.os = W.os
  tape : W'.tape = W.tape
  output : W'.output = W.output
  size : W.heap.size ≤ W'.heap.size
  keep : ∀ k, k < W.heap.size → k ≠ ge → ¬ F k → W'.heap[k]? = W.heap[k]?
  ex : ∃ v' F' L', W'.heap[ge]? = some (.cells (cs.setIfInBounds c v') 85 (0, 0)) ∧ Tri W' B F' v' (if D < n then n else D + 1) L' ∧ (∀ k, F' k → F k ∨ W.heap.size ≤ k) ∧ ¬ F' ge ∧
    L' D j = x ∧ (∀ d i, d < n → ¬ (d = D ∧ i = j) → L' d i = L d i)
end Go.Proofs.Ytonajgipkpnpoaa.Gr
