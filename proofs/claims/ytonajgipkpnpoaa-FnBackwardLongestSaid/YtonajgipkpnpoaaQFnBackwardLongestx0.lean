-- Written by a program of this session, after the kit's printer.
import Derived.Test.YtonajgipkpnpoaaProg
import Derived.Below
import Derived.Deep.Draws
import Derived.Deep.AppendLies
import Derived.Maps.AppendAt
import Derived.OwnWalk
import Derived.Laws.BytesArg
import Derived.Laws.MakeOwn
import Derived.Laws.OwnMore
import Derived.Deep.OwnRows
import Derived.Tactics
import Derived.Lib.ConvBytes
import Derived.Laws.Slices
import Derived.WalkKit
import Derived.KernelRfl
import Derived.RowKit3
import Derived.Deep.LoopGhost
import Derived.Deep.QuietTactic
import Derived.BigQuiet
import Derived.WideLaws
import Derived.Deep.DeepCutAuto
import Derived.Deep.CutBlock
import Derived.Deep.RegionHeld3
import Derived.Laws.Rows
import Derived.Lib.AppendStr
import Derived.ArgAppend
import Derived.Laws.IdiomCopy
import Derived.OrdersHeld
import Derived.Laws.BitsLemmas
import Derived.RowKit
import Derived.Test.YtonajgipkpnpoaaWWords
import Derived.Test.YtonajgipkpnpoaaWLast
import Derived.Test.YtonajgipkpnpoaaWTab
import Derived.Test.YtonajgipkpnpoaaWFour
import Derived.Test.YtonajgipkpnpoaaWQPut
import Derived.Test.YtonajgipkpnpoaaWApart
import Derived.Test.YtonajgipkpnpoaaWArr
import Derived.Test.YtonajgipkpnpoaaWZeros
import Derived.Test.YtonajgipkpnpoaaWFoot
import Derived.Test.YtonajgipkpnpoaaWKept
import Derived.Test.YtonajgipkpnpoaaWShare
import Derived.Test.YtonajgipkpnpoaaWN
import Derived.Test.YtonajgipkpnpoaaWFootNe
import Derived.Test.YtonajgipkpnpoaaWAt
import Derived.Test.YtonajgipkpnpoaaWEqStruct
import Derived.Test.YtonajgipkpnpoaaWRepsOne
import Derived.Test.YtonajgipkpnpoaaWInv
import Derived.Test.YtonajgipkpnpoaaWInvWords
import Derived.Test.YtonajgipkpnpoaaWGuard
import Derived.Test.YtonajgipkpnpoaaWNEv
import Derived.Test.YtonajgipkpnpoaaWMore
namespace Go.Proofs.Ytonajgipkpnpoaa.QFnBackwardLongest
open Go.RowKit Go.Proofs.YtonajgipkpnpoaaW.PrintWords Go.Proofs.YtonajgipkpnpoaaW.PrintLast Go.Proofs.YtonajgipkpnpoaaW.PrintMore
attribute [local go_sem] max2_int min2_int max_two min_two max_three min_three max_four min_four   -- for this text's walks alone
set_option linter.unusedVariables false
set_option linter.unusedSimpArgs false



def errW : Option Int → Value
  | none => .nilIface
  | some c => .iface 0 (.int .i64 c)
theorem errW_none : errW none = .nilIface := rfl
theorem errW_some (c : Int) : errW (some c) = .iface 0 (.int .i64 c) := rfl

theorem info3 : (Try.prog.info? 3).map (fun i => (i.zero, i.size, i.bytes)) = some (some (.int .i64 0), 1, 8) := by kernel_rfl
theorem info56 : (Try.prog.info? 56).map (fun i => (i.zero, i.size, i.bytes)) = some (some (.agg #[(.int .i64 0), (.int .i64 0), (.int .i64 0)]), 3, 24) := by kernel_rfl
theorem info58 : (Try.prog.info? 58).map (fun i => (i.zero, i.size, i.bytes)) = some (some (.agg #[(.int .i64 0), (.int .i64 0), (.int .i64 0), (.int .i64 0)]), 4, 32) := by kernel_rfl
theorem info64 : (Try.prog.info? 64).map (fun i => (i.zero, i.size, i.bytes)) = some (some (.agg #[(.int .i64 0), (.int .i64 0), (.int .i64 0), (.int .i64 0)]), 4, 32) := by kernel_rfl
-- the values' own types
/-! #### struct type 76 -/
structure S76 where
  f0 : Int
  f1 : Int
  f2 : Int
def z76 : S76 := ⟨(0 : Int), (0 : Int), (0 : Int)⟩
def k76 : Kd S76 := Kd.iso (Kd.pair (Kd.int .i64) (Kd.pair (Kd.int .i64) (Kd.int .i64))) (fun x : S76 => (x.f0, x.f1, x.f2))
theorem k76_open {w : World} {x : S76} {cs : List Value} (h : k76.K w x cs) : cs = [.int .i64 x.f0, .int .i64 x.f1, .int .i64 x.f2] := by
  obtain ⟨_, _, rfl, rfl, ⟨_, _, rfl, rfl, rfl⟩⟩ := h
  exact rfl
theorem k76_openM {w : World} {base : Nat} {ok : Nat → Prop} {x : S76} {cs : List Value} (h : k76.M w base ok x cs) : cs = [.int .i64 x.f0, .int .i64 x.f1, .int .i64 x.f2] := by
  obtain ⟨_, _, rfl, rfl, ⟨_, _, rfl, rfl, rfl⟩⟩ := h
  exact rfl
theorem k76_mk (w : World) (x : S76)  : k76.K w x [.int .i64 x.f0, .int .i64 x.f1, .int .i64 x.f2] := ⟨[.int .i64 x.f0], [.int .i64 x.f1, .int .i64 x.f2], rfl, rfl, ⟨[.int .i64 x.f1], [.int .i64 x.f2], rfl, rfl, rfl⟩⟩
theorem k76_mkM (w : World) (base : Nat) (ok : Nat → Prop) (x : S76)  : k76.M w base ok x [.int .i64 x.f0, .int .i64 x.f1, .int .i64 x.f2] := ⟨[.int .i64 x.f0], [.int .i64 x.f1, .int .i64 x.f2], rfl, rfl, ⟨[.int .i64 x.f1], [.int .i64 x.f2], rfl, rfl, rfl⟩⟩
def rd_T76 (xs : List S76) (i : Int) : S76 := xs.getD i.toNat z76
theorem at_T76 {w : World} {A : Option Addr} {n : Nat} {xs : List S76} (h : Kd.C k76 w A n xs) (i : Int) (h0 : 0 ≤ i) (h1 : i < n) : ∃ ad , A = some ad ∧ w.cell? (ad.add (i.toNat * 3)) = some (.int .i64 (rd_T76 xs i).f0) ∧ w.cell? ⟨(ad.add (i.toNat * 3)).block, (ad.add (i.toNat * 3)).off + 1, none⟩ = some (.int .i64 (rd_T76 xs i).f1) ∧ w.cell? ⟨(ad.add (i.toNat * 3)).block, (ad.add (i.toNat * 3)).off + 2, none⟩ = some (.int .i64 (rd_T76 xs i).f2) := by
  obtain ⟨ad, c, e, _, hK, hc0⟩ := Kd.C_get h z76 i h0 h1
  have hc : ∀ j u, c[j]? = some u → w.cell? (ad.add (i.toNat * 3 + j)) = some u := hc0
  obtain rfl := k76_open hK
  exact ⟨ad, e, hc 0 _ rfl, by rw [← add_field _ _ 1 (by omega)]; exact hc 1 _ rfl, by rw [← add_field _ _ 2 (by omega)]; exact hc 2 _ rfl⟩

/-! #### struct type 64 -/
structure S64 where
  f0 : Int
  f1 : Int
  f2 : Int
  f3 : Int
def z64 : S64 := ⟨(0 : Int), (0 : Int), (0 : Int), (0 : Int)⟩
def k64 : Kd S64 := Kd.iso (Kd.pair (Kd.int .i64) (Kd.pair (Kd.int .i64) (Kd.pair (Kd.int .i64) (Kd.int .i64)))) (fun x : S64 => (x.f0, x.f1, x.f2, x.f3))
theorem k64_open {w : World} {x : S64} {cs : List Value} (h : k64.K w x cs) : cs = [.int .i64 x.f0, .int .i64 x.f1, .int .i64 x.f2, .int .i64 x.f3] := by
  obtain ⟨_, _, rfl, rfl, ⟨_, _, rfl, rfl, ⟨_, _, rfl, rfl, rfl⟩⟩⟩ := h
  exact rfl
theorem k64_openM {w : World} {base : Nat} {ok : Nat → Prop} {x : S64} {cs : List Value} (h : k64.M w base ok x cs) : cs = [.int .i64 x.f0, .int .i64 x.f1, .int .i64 x.f2, .int .i64 x.f3] := by
  obtain ⟨_, _, rfl, rfl, ⟨_, _, rfl, rfl, ⟨_, _, rfl, rfl, rfl⟩⟩⟩ := h
  exact rfl
theorem k64_mk (w : World) (x : S64)  : k64.K w x [.int .i64 x.f0, .int .i64 x.f1, .int .i64 x.f2, .int .i64 x.f3] := ⟨[.int .i64 x.f0], [.int .i64 x.f1, .int .i64 x.f2, .int .i64 x.f3], rfl, rfl, ⟨[.int .i64 x.f1], [.int .i64 x.f2, .int .i64 x.f3], rfl, rfl, ⟨[.int .i64 x.f2], [.int .i64 x.f3], rfl, rfl, rfl⟩⟩⟩
theorem k64_mkM (w : World) (base : Nat) (ok : Nat → Prop) (x : S64)  : k64.M w base ok x [.int .i64 x.f0, .int .i64 x.f1, .int .i64 x.f2, .int .i64 x.f3] := ⟨[.int .i64 x.f0], [.int .i64 x.f1, .int .i64 x.f2, .int .i64 x.f3], rfl, rfl, ⟨[.int .i64 x.f1], [.int .i64 x.f2, .int .i64 x.f3], rfl, rfl, ⟨[.int .i64 x.f2], [.int .i64 x.f3], rfl, rfl, rfl⟩⟩⟩
def rd_T64 (xs : List S64) (i : Int) : S64 := xs.getD i.toNat z64
theorem at_T64 {w : World} {A : Option Addr} {n : Nat} {xs : List S64} (h : Kd.C k64 w A n xs) (i : Int) (h0 : 0 ≤ i) (h1 : i < n) : ∃ ad , A = some ad ∧ w.cell? (ad.add (i.toNat * 4)) = some (.int .i64 (rd_T64 xs i).f0) ∧ w.cell? ⟨(ad.add (i.toNat * 4)).block, (ad.add (i.toNat * 4)).off + 1, none⟩ = some (.int .i64 (rd_T64 xs i).f1) ∧ w.cell? ⟨(ad.add (i.toNat * 4)).block, (ad.add (i.toNat * 4)).off + 2, none⟩ = some (.int .i64 (rd_T64 xs i).f2) ∧ w.cell? ⟨(ad.add (i.toNat * 4)).block, (ad.add (i.toNat * 4)).off + 3, none⟩ = some (.int .i64 (rd_T64 xs i).f3) := by
  obtain ⟨ad, c, e, _, hK, hc0⟩ := Kd.C_get h z64 i h0 h1
  have hc : ∀ j u, c[j]? = some u → w.cell? (ad.add (i.toNat * 4 + j)) = some u := hc0
  obtain rfl := k64_open hK
  exact ⟨ad, e, hc 0 _ rfl, by rw [← add_field _ _ 1 (by omega)]; exact hc 1 _ rfl, by rw [← add_field _ _ 2 (by omega)]; exact hc 2 _ rfl, by rw [← add_field _ _ 3 (by omega)]; exact hc 3 _ rfl⟩

/-! #### struct type 58 -/
structure S58 where
  f0 : Int
  f1 : Int
  f2 : Int
  f3 : Int
def z58 : S58 := ⟨(0 : Int), (0 : Int), (0 : Int), (0 : Int)⟩
def k58 : Kd S58 := Kd.iso (Kd.pair (Kd.int .i64) (Kd.pair (Kd.int .i64) (Kd.pair (Kd.int .i64) (Kd.int .i64)))) (fun x : S58 => (x.f0, x.f1, x.f2, x.f3))
theorem k58_open {w : World} {x : S58} {cs : List Value} (h : k58.K w x cs) : cs = [.int .i64 x.f0, .int .i64 x.f1, .int .i64 x.f2, .int .i64 x.f3] := by
  obtain ⟨_, _, rfl, rfl, ⟨_, _, rfl, rfl, ⟨_, _, rfl, rfl, rfl⟩⟩⟩ := h
  exact rfl
theorem k58_openM {w : World} {base : Nat} {ok : Nat → Prop} {x : S58} {cs : List Value} (h : k58.M w base ok x cs) : cs = [.int .i64 x.f0, .int .i64 x.f1, .int .i64 x.f2, .int .i64 x.f3] := by
  obtain ⟨_, _, rfl, rfl, ⟨_, _, rfl, rfl, ⟨_, _, rfl, rfl, rfl⟩⟩⟩ := h
  exact rfl
theorem k58_mk (w : World) (x : S58)  : k58.K w x [.int .i64 x.f0, .int .i64 x.f1, .int .i64 x.f2, .int .i64 x.f3] := ⟨[.int .i64 x.f0], [.int .i64 x.f1, .int .i64 x.f2, .int .i64 x.f3], rfl, rfl, ⟨[.int .i64 x.f1], [.int .i64 x.f2, .int .i64 x.f3], rfl, rfl, ⟨[.int .i64 x.f2], [.int .i64 x.f3], rfl, rfl, rfl⟩⟩⟩
theorem k58_mkM (w : World) (base : Nat) (ok : Nat → Prop) (x : S58)  : k58.M w base ok x [.int .i64 x.f0, .int .i64 x.f1, .int .i64 x.f2, .int .i64 x.f3] := ⟨[.int .i64 x.f0], [.int .i64 x.f1, .int .i64 x.f2, .int .i64 x.f3], rfl, rfl, ⟨[.int .i64 x.f1], [.int .i64 x.f2, .int .i64 x.f3], rfl, rfl, ⟨[.int .i64 x.f2], [.int .i64 x.f3], rfl, rfl, rfl⟩⟩⟩
def rd_T58 (xs : List S58) (i : Int) : S58 := xs.getD i.toNat z58
theorem at_T58 {w : World} {A : Option Addr} {n : Nat} {xs : List S58} (h : Kd.C k58 w A n xs) (i : Int) (h0 : 0 ≤ i) (h1 : i < n) : ∃ ad , A = some ad ∧ w.cell? (ad.add (i.toNat * 4)) = some (.int .i64 (rd_T58 xs i).f0) ∧ w.cell? ⟨(ad.add (i.toNat * 4)).block, (ad.add (i.toNat * 4)).off + 1, none⟩ = some (.int .i64 (rd_T58 xs i).f1) ∧ w.cell? ⟨(ad.add (i.toNat * 4)).block, (ad.add (i.toNat * 4)).off + 2, none⟩ = some (.int .i64 (rd_T58 xs i).f2) ∧ w.cell? ⟨(ad.add (i.toNat * 4)).block, (ad.add (i.toNat * 4)).off + 3, none⟩ = some (.int .i64 (rd_T58 xs i).f3) := by
  obtain ⟨ad, c, e, _, hK, hc0⟩ := Kd.C_get h z58 i h0 h1
  have hc : ∀ j u, c[j]? = some u → w.cell? (ad.add (i.toNat * 4 + j)) = some u := hc0
  obtain rfl := k58_open hK
  exact ⟨ad, e, hc 0 _ rfl, by rw [← add_field _ _ 1 (by omega)]; exact hc 1 _ rfl, by rw [← add_field _ _ 2 (by omega)]; exact hc 2 _ rfl, by rw [← add_field _ _ 3 (by omega)]; exact hc 3 _ rfl⟩

/-! #### struct type 65 -/
structure S65 where
  f0 : Int
  f1 : Int
  f2 : Int
def z65 : S65 := ⟨(0 : Int), (0 : Int), (0 : Int)⟩
def k65 : Kd S65 := Kd.iso (Kd.pair (Kd.int .i64) (Kd.pair (Kd.int .i64) (Kd.int .i64))) (fun x : S65 => (x.f0, x.f1, x.f2))
theorem k65_open {w : World} {x : S65} {cs : List Value} (h : k65.K w x cs) : cs = [.int .i64 x.f0, .int .i64 x.f1, .int .i64 x.f2] := by
  obtain ⟨_, _, rfl, rfl, ⟨_, _, rfl, rfl, rfl⟩⟩ := h
  exact rfl
theorem k65_openM {w : World} {base : Nat} {ok : Nat → Prop} {x : S65} {cs : List Value} (h : k65.M w base ok x cs) : cs = [.int .i64 x.f0, .int .i64 x.f1, .int .i64 x.f2] := by
  obtain ⟨_, _, rfl, rfl, ⟨_, _, rfl, rfl, rfl⟩⟩ := h
  exact rfl
theorem k65_mk (w : World) (x : S65)  : k65.K w x [.int .i64 x.f0, .int .i64 x.f1, .int .i64 x.f2] := ⟨[.int .i64 x.f0], [.int .i64 x.f1, .int .i64 x.f2], rfl, rfl, ⟨[.int .i64 x.f1], [.int .i64 x.f2], rfl, rfl, rfl⟩⟩
theorem k65_mkM (w : World) (base : Nat) (ok : Nat → Prop) (x : S65)  : k65.M w base ok x [.int .i64 x.f0, .int .i64 x.f1, .int .i64 x.f2] := ⟨[.int .i64 x.f0], [.int .i64 x.f1, .int .i64 x.f2], rfl, rfl, ⟨[.int .i64 x.f1], [.int .i64 x.f2], rfl, rfl, rfl⟩⟩
def rd_T65 (xs : List S65) (i : Int) : S65 := xs.getD i.toNat z65
theorem at_T65 {w : World} {A : Option Addr} {n : Nat} {xs : List S65} (h : Kd.C k65 w A n xs) (i : Int) (h0 : 0 ≤ i) (h1 : i < n) : ∃ ad , A = some ad ∧ w.cell? (ad.add (i.toNat * 3)) = some (.int .i64 (rd_T65 xs i).f0) ∧ w.cell? ⟨(ad.add (i.toNat * 3)).block, (ad.add (i.toNat * 3)).off + 1, none⟩ = some (.int .i64 (rd_T65 xs i).f1) ∧ w.cell? ⟨(ad.add (i.toNat * 3)).block, (ad.add (i.toNat * 3)).off + 2, none⟩ = some (.int .i64 (rd_T65 xs i).f2) := by
  obtain ⟨ad, c, e, _, hK, hc0⟩ := Kd.C_get h z65 i h0 h1
  have hc : ∀ j u, c[j]? = some u → w.cell? (ad.add (i.toNat * 3 + j)) = some u := hc0
  obtain rfl := k65_open hK
  exact ⟨ad, e, hc 0 _ rfl, by rw [← add_field _ _ 1 (by omega)]; exact hc 1 _ rfl, by rw [← add_field _ _ 2 (by omega)]; exact hc 2 _ rfl⟩

/-! #### struct type 56 -/
structure S56 where
  f0 : Int
  f1 : Int
  f2 : Int
def z56 : S56 := ⟨(0 : Int), (0 : Int), (0 : Int)⟩
def k56 : Kd S56 := Kd.iso (Kd.pair (Kd.int .i64) (Kd.pair (Kd.int .i64) (Kd.int .i64))) (fun x : S56 => (x.f0, x.f1, x.f2))
theorem k56_open {w : World} {x : S56} {cs : List Value} (h : k56.K w x cs) : cs = [.int .i64 x.f0, .int .i64 x.f1, .int .i64 x.f2] := by
  obtain ⟨_, _, rfl, rfl, ⟨_, _, rfl, rfl, rfl⟩⟩ := h
  exact rfl
theorem k56_openM {w : World} {base : Nat} {ok : Nat → Prop} {x : S56} {cs : List Value} (h : k56.M w base ok x cs) : cs = [.int .i64 x.f0, .int .i64 x.f1, .int .i64 x.f2] := by
  obtain ⟨_, _, rfl, rfl, ⟨_, _, rfl, rfl, rfl⟩⟩ := h
  exact rfl
theorem k56_mk (w : World) (x : S56)  : k56.K w x [.int .i64 x.f0, .int .i64 x.f1, .int .i64 x.f2] := ⟨[.int .i64 x.f0], [.int .i64 x.f1, .int .i64 x.f2], rfl, rfl, ⟨[.int .i64 x.f1], [.int .i64 x.f2], rfl, rfl, rfl⟩⟩
theorem k56_mkM (w : World) (base : Nat) (ok : Nat → Prop) (x : S56)  : k56.M w base ok x [.int .i64 x.f0, .int .i64 x.f1, .int .i64 x.f2] := ⟨[.int .i64 x.f0], [.int .i64 x.f1, .int .i64 x.f2], rfl, rfl, ⟨[.int .i64 x.f1], [.int .i64 x.f2], rfl, rfl, rfl⟩⟩
def rd_T56 (xs : List S56) (i : Int) : S56 := xs.getD i.toNat z56
theorem at_T56 {w : World} {A : Option Addr} {n : Nat} {xs : List S56} (h : Kd.C k56 w A n xs) (i : Int) (h0 : 0 ≤ i) (h1 : i < n) : ∃ ad , A = some ad ∧ w.cell? (ad.add (i.toNat * 3)) = some (.int .i64 (rd_T56 xs i).f0) ∧ w.cell? ⟨(ad.add (i.toNat * 3)).block, (ad.add (i.toNat * 3)).off + 1, none⟩ = some (.int .i64 (rd_T56 xs i).f1) ∧ w.cell? ⟨(ad.add (i.toNat * 3)).block, (ad.add (i.toNat * 3)).off + 2, none⟩ = some (.int .i64 (rd_T56 xs i).f2) := by
  obtain ⟨ad, c, e, _, hK, hc0⟩ := Kd.C_get h z56 i h0 h1
  have hc : ∀ j u, c[j]? = some u → w.cell? (ad.add (i.toNat * 3 + j)) = some u := hc0
  obtain rfl := k56_open hK
  exact ⟨ad, e, hc 0 _ rfl, by rw [← add_field _ _ 1 (by omega)]; exact hc 1 _ rfl, by rw [← add_field _ _ 2 (by omega)]; exact hc 2 _ rfl⟩

end Go.Proofs.Ytonajgipkpnpoaa.QFnBackwardLongest
