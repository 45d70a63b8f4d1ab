/- The methods Less and Swap of a list of edits. -/
import Derived.Test.YtonajgipkpnpoaaGreatDoorProg
import Derived.WalkKit
import Derived.KernelRfl
import Derived.Deep.QuietTactic
import Derived.BigQuiet
import Derived.RegionTactic
import Derived.BigRegion
import Derived.Outline
import Derived.Shelf.GgSortFunc.RowK
namespace Go.Proofs.YtonajgipkpnpoaaGreatDoor.SortM
open Go.RowKit Go.Sort
structure E where
  a : Int
  b : Int
  s : ByteArray
instance : Inhabited E := ⟨⟨0, 0, ⟨#[]⟩⟩⟩
def enc (x : E) : List Value := [.int .i64 x.a, .int .i64 x.b, .string x.s]
def lt (x y : E) : Bool := decide (x.a < y.a) || (x.a == y.a && decide (x.b < y.b))
theorem lt_ne (x y : E) (h : (x.a - y.a != 0) = true) : lt x y = decide (x.a - y.a < 0) := by
  unfold lt
  rw [bne_iff_ne] at h
  have e : (x.a == y.a) = false := beq_eq_false_iff_ne.2 (by omega)
  rw [e, Bool.false_and, Bool.or_false]
  exact decide_eq_decide.2 (by omega)
theorem lt_eq (x y : E) (h : (x.a - y.a != 0) = false) : lt x y = decide (x.b < y.b) := by
  unfold lt
  rw [bne_eq_false_iff_eq] at h
  have e : (x.a == y.a) = true := beq_iff_eq.2 (by omega)
  have e2 : decide (x.a < y.a) = false := decide_eq_false (by omega)
  rw [e, e2, Bool.true_and, Bool.false_or]
theorem less_any (blk off c size : Nat) (W : World) (i j : Nat) (x y : E) (hi : i < size) (hj : j < size) (_hsz : size < 4611686018427387904)
    (hx : -1099511627776 ≤ x.a) (hx' : x.a ≤ 1099511627776) (hy : -1099511627776 ≤ y.a) (hy' : y.a ≤ 1099511627776)
    (ci0 : W.cell? ⟨blk, off + i * 3, none⟩ = some (.int .i64 x.a)) (ci1 : W.cell? ⟨blk, off + i * 3 + 1, none⟩ = some (.int .i64 x.b))
    (cj0 : W.cell? ⟨blk, off + j * 3, none⟩ = some (.int .i64 y.a)) (cj1 : W.cell? ⟨blk, off + j * 3 + 1, none⟩ = some (.int .i64 y.b)) :
    Calls Tryz.prog 187 #[.slice (some ⟨blk, off, none⟩) size c, .int .i64 i, .int .i64 j] W fun e w' => e = .returned (.bool (lt x y)) ∧ ∃ q, w' = W.drewN q := by
  go_enter Tryz.func187, Tryz.ntmps187
  go_wp2
  go_quiet (fail)
  obtain ⟨n1, rfl⟩ : ∃ n, n = nq := ⟨_, rfl⟩
  go_wp2
  · have h : (x.a - y.a != 0) = true := by assumption
    go_ret
    refine ⟨?_, n1, rfl⟩
    rw [lt_ne x y h]
    rfl
  · have h : (x.a - y.a != 0) = false := by assumption
    go_quiet (fail)
    go_wp2
    go_ret
    refine ⟨?_, n1 + nq, World.drewN_drewN _ _ _⟩
    rw [lt_eq x y h]
    rfl
theorem swap_any (blk off c size : Nat) (W : World) (i j : Nat) (x y : E) (hi : i < size) (hj : j < size) (_hsz : size < 4611686018427387904)
    (ci0 : W.cell? ⟨blk, off + i * 3, none⟩ = some (.int .i64 x.a)) (ci1 : W.cell? ⟨blk, off + i * 3 + 1, none⟩ = some (.int .i64 x.b)) (ci2 : W.cell? ⟨blk, off + i * 3 + 2, none⟩ = some (.string x.s))
    (cj0 : W.cell? ⟨blk, off + j * 3, none⟩ = some (.int .i64 y.a)) (cj1 : W.cell? ⟨blk, off + j * 3 + 1, none⟩ = some (.int .i64 y.b)) (cj2 : W.cell? ⟨blk, off + j * 3 + 2, none⟩ = some (.string y.s))
    (fi0 : W.frozen? ⟨blk, off + i * 3, none⟩ = false) (fi1 : W.frozen? ⟨blk, off + i * 3 + 1, none⟩ = false) (fi2 : W.frozen? ⟨blk, off + i * 3 + 2, none⟩ = false)
    (fj0 : W.frozen? ⟨blk, off + j * 3, none⟩ = false) (fj1 : W.frozen? ⟨blk, off + j * 3 + 1, none⟩ = false) (fj2 : W.frozen? ⟨blk, off + j * 3 + 2, none⟩ = false) :
    Calls Tryz.prog 188 #[.slice (some ⟨blk, off, none⟩) size c, .int .i64 i, .int .i64 j] W fun e w' => e = .returned (.tuple #[]) ∧ ∃ q, w' = ((W.setCells blk (off + i * 3) (enc y)).setCells blk (off + j * 3) (enc x)).drewN q := by
  obtain ⟨v0, h0⟩ := cell?_setCell_some (w := W) (p := ⟨blk, off + i * 3, none⟩) (x := .int .i64 y.a) (q := ⟨blk, off + j * 3, none⟩) cj0
  obtain ⟨u1, g1⟩ := cell?_setCell_some (w := W) (p := ⟨blk, off + i * 3, none⟩) (x := .int .i64 y.a) (q := ⟨blk, off + j * 3 + 1, none⟩) cj1
  obtain ⟨v1, h1⟩ := cell?_setCell_some (p := ⟨blk, off + i * 3 + 1, none⟩) (x := .int .i64 y.b) (q := ⟨blk, off + j * 3 + 1, none⟩) g1
  obtain ⟨u2, g2⟩ := cell?_setCell_some (w := W) (p := ⟨blk, off + i * 3, none⟩) (x := .int .i64 y.a) (q := ⟨blk, off + j * 3 + 2, none⟩) cj2
  obtain ⟨u3, g3⟩ := cell?_setCell_some (p := ⟨blk, off + i * 3 + 1, none⟩) (x := .int .i64 y.b) (q := ⟨blk, off + j * 3 + 2, none⟩) g2
  obtain ⟨v2, h2⟩ := cell?_setCell_some (p := ⟨blk, off + i * 3 + 2, none⟩) (x := .string y.s) (q := ⟨blk, off + j * 3 + 2, none⟩) g3
  clear g1 g2 g3
  go_enter Tryz.func188, Tryz.ntmps188
  go_wp2
  go_region
  all_goals (try go_wp2)
  all_goals go_end0
  all_goals exact ⟨rfl, 1, rfl⟩
theorem len_any (A : Option Addr) (n c : Nat) (W : World) (_hn : n < 4611686018427387904) :
    Calls Tryz.prog 186 #[.slice A n c] W fun e w' => e = .returned (.int .i64 n) ∧ W = w' := by
  go_enter Tryz.func186, Tryz.ntmps186
  go_wp2
  go_ret
  exact ⟨rfl, rfl⟩
end Go.Proofs.YtonajgipkpnpoaaGreatDoor.SortM
