/- The reader's state, its slices pinned; take, number: after the kit's printed text. -/
import Derived.Test.YtonajgipkpnpoaaDoorQFnToUnifiedReadsx0
namespace Go.Proofs.YtonajgipkpnpoaaDoor.Rd
open Go.RowKit Go.Proofs.YtonajgipkpnpoaaDoorW.PrintWords Go.Proofs.YtonajgipkpnpoaaDoorW.PrintLast Go.Proofs.YtonajgipkpnpoaaDoorW.PrintMore
attribute [local go_sem] max2_int min2_int max_two min_two max_three min_three max_four min_four
set_option linter.unusedVariables false
set_option linter.unusedSimpArgs false

/-- where a slice of the state lies -/
structure Pin where
  A : Option Addr
  n : Nat
  c : Nat

def errW : Option Int → Value
  | none => .nilIface
  | some c => .iface 0 (.int .i64 c)
theorem errW_none : errW none = .nilIface := rfl
theorem errW_some (c : Int) : errW (some c) = .iface 0 (.int .i64 c) := rfl
/-- A state of type 53 at block g of W; what its slices lead to came in by w0. -/
def IsS53 (w0 W : World) (g : Nat) (f0 : ByteArray) (f1 : Int) (f2 : Bool) (f3 : Pin) (f4 : Int) (f5 : Pin) : Prop := ∃ A3 c3, ∃ A5 c5, W.heap[g]? = some (.cells #[.string f0, .int .i64 f1, .bool f2, .slice A3 f3.n c3, .int .i64 f4, .slice A5 f5.n c5] 53 (0, 0)) ∧ w0.heap.size ≤ g ∧ (A3 = f3.A ∧ c3 = f3.c) ∧ (A5 = f5.A ∧ c5 = f5.c)
theorem IsS53.grown {w0 W : World} {g : Nat} {f0 : ByteArray} {f1 : Int} {f2 : Bool} {f3 : Pin} {f4 : Int} {f5 : Pin} {W1 : World} {row : Option Nat} (h : IsS53 w0 W g f0 f1 f2 f3 f4 f5) (hw : W.grownBy W1 row) (hne : some g ≠ row) : IsS53 w0 W1 g f0 f1 f2 f3 f4 f5 := by
  obtain ⟨A3, c3, A5, c5, hb, hg, hr3, hr5⟩ := h
  exact ⟨A3, c3, A5, c5, blk_grown hb hw hne, hg, hr3, hr5⟩
theorem IsS53.own_neN {w0 W : World} {g : Nat} {f0 : ByteArray} {f1 : Int} {f2 : Bool} {f3 : Pin} {f4 : Int} {f5 : Pin} {α : Type} {d : Kd α} {e : Nat} {base : Nat} {ok : Nat → Prop} {v : Value} {xs : List α} (h : IsS53 w0 W g f0 f1 f2 f3 f4 f5) (ho : Kd.N d e W base ok v xs) (ht : e ≠ 53) : some g ≠ v.ownBlock := by
  obtain ⟨A3, c3, A5, c5, hb, hg, hr3, hr5⟩ := h
  exact Kd.N_ne ho hb ht
theorem IsS53.fresh {w0 W : World} {g : Nat} {f0 : ByteArray} {f1 : Int} {f2 : Bool} {f3 : Pin} {f4 : Int} {f5 : Pin} (h : IsS53 w0 W g f0 f1 f2 f3 f4 f5) : ∀ k, W.heap.size ≤ k → k ≠ g := by
  obtain ⟨A3, c3, A5, c5, hb, hg, hr3, hr5⟩ := h
  exact Kd.freshB hb
theorem IsS53.kept {w0 W : World} {g : Nat} {f0 : ByteArray} {f1 : Int} {f2 : Bool} {f3 : Pin} {f4 : Int} {f5 : Pin} {W1 : World} {S : Nat → Prop} (h : IsS53 w0 W g f0 f1 f2 f3 f4 f5) (hk : Kept W W1 S) (hne : ¬ S g) : IsS53 w0 W1 g f0 f1 f2 f3 f4 f5 := by
  obtain ⟨A3, c3, A5, c5, hb, hg, hr3, hr5⟩ := h
  exact ⟨A3, c3, A5, c5, blk_kept hb hk hne, hg, hr3, hr5⟩
theorem IsS53.below {w0 W : World} {g : Nat} {f0 : ByteArray} {f1 : Int} {f2 : Bool} {f3 : Pin} {f4 : Int} {f5 : Pin} {W1 : World} (h : IsS53 w0 W g f0 f1 f2 f3 f4 f5) (hw : Below W.heap.size W W1) : IsS53 w0 W1 g f0 f1 f2 f3 f4 f5 := h.grown (grown_of_below hw none) (by simp)
theorem IsS53.alloc {w0 W : World} {g : Nat} {f0 : ByteArray} {f1 : Int} {f2 : Bool} {f3 : Pin} {f4 : Int} {f5 : Pin} (h : IsS53 w0 W g f0 f1 f2 f3 f4 f5) (o : Obj) : IsS53 w0 (W.alloc o) g f0 f1 f2 f3 f4 f5 := h.below (below_alloc (Below.refl _ _) o)
theorem IsS53.drewN {w0 W : World} {g : Nat} {f0 : ByteArray} {f1 : Int} {f2 : Bool} {f3 : Pin} {f4 : Int} {f5 : Pin} (h : IsS53 w0 W g f0 f1 f2 f3 f4 f5) (m : Nat) : IsS53 w0 (W.drewN m) g f0 f1 f2 f3 f4 f5 := h
theorem IsS53.drew {w0 W : World} {g : Nat} {f0 : ByteArray} {f1 : Int} {f2 : Bool} {f3 : Pin} {f4 : Int} {f5 : Pin} (h : IsS53 w0 W g f0 f1 f2 f3 f4 f5) : IsS53 w0 W.drew g f0 f1 f2 f3 f4 f5 := h
theorem IsS53.at_ {w0 W : World} {g : Nat} {f0 : ByteArray} {f1 : Int} {f2 : Bool} {f3 : Pin} {f4 : Int} {f5 : Pin} {w' : World} {m : Nat} (hq : W.drewN m = w') (h : IsS53 w0 W g f0 f1 f2 f3 f4 f5) : IsS53 w0 w' g f0 f1 f2 f3 f4 f5 := by subst hq; exact IsS53.drewN h m
theorem IsS53.apart {w0 W : World} {g : Nat} {f0 : ByteArray} {f1 : Int} {f2 : Bool} {f3 : Pin} {f4 : Int} {f5 : Pin} {α : Type} {d : Kd α} {e : Nat} {base : Nat} {ok : Nat → Prop} {v : Value} {xs : List α} (h : IsS53 w0 W g f0 f1 f2 f3 f4 f5) (ho : d.R e W base ok v xs) (ht : ∀ q, q ∈ e :: d.E → q ≠ 53) : d.R e W base (fun k => ok k ∧ k ≠ g) v xs := by
  obtain ⟨A3, c3, A5, c5, hb, hg, hr3, hr5⟩ := h
  exact Kd.R_types ho hb ht
theorem IsS53.own_ne {w0 W : World} {g : Nat} {f0 : ByteArray} {f1 : Int} {f2 : Bool} {f3 : Pin} {f4 : Int} {f5 : Pin} {α : Type} {d : Kd α} {e : Nat} {base : Nat} {ok : Nat → Prop} {v : Value} {xs : List α} (h : IsS53 w0 W g f0 f1 f2 f3 f4 f5) (ho : d.R e W base ok v xs) (ht : e ≠ 53) : some g ≠ v.ownBlock := by
  obtain ⟨A3, c3, A5, c5, hb, hg, hr3, hr5⟩ := h
  exact Kd.R_ne ho hb ht
theorem IsS53.apartQ {w0 W : World} {g : Nat} {f0 : ByteArray} {f1 : Int} {f2 : Bool} {f3 : Pin} {f4 : Int} {f5 : Pin} {α : Type} {d : Kd α} {e : Nat} {base : Nat} {ok : Nat → Prop} {v : Value} {xs : List α} (h : IsS53 w0 W g f0 f1 f2 f3 f4 f5) (ho : d.Q e W base ok v xs) (ht : ∀ q, q ∈ e :: d.E → q ≠ 53) : d.Q e W base (fun k => ok k ∧ k ≠ g) v xs := by
  obtain ⟨A3, c3, A5, c5, hb, hg, hr3, hr5⟩ := h
  exact Kd.Q_types ho hb ht
theorem IsS53.own_neQ {w0 W : World} {g : Nat} {f0 : ByteArray} {f1 : Int} {f2 : Bool} {f3 : Pin} {f4 : Int} {f5 : Pin} {α : Type} {d : Kd α} {e : Nat} {base : Nat} {ok : Nat → Prop} {v : Value} {xs : List α} (h : IsS53 w0 W g f0 f1 f2 f3 f4 f5) (ho : d.Q e W base ok v xs) (ht : e ≠ 53) : some g ≠ v.ownBlock := by
  obtain ⟨A3, c3, A5, c5, hb, hg, hr3, hr5⟩ := h
  exact Kd.Q_ne ho hb ht
theorem IsS53.apartS {w0 W : World} {g : Nat} {f0 : ByteArray} {f1 : Int} {f2 : Bool} {f3 : Pin} {f4 : Int} {f5 : Pin} {α : Type} {d : Kd α} {e : Nat} {base : Nat} {ok : Nat → Prop} {v : Value} {xs : List α} (h : IsS53 w0 W g f0 f1 f2 f3 f4 f5) (ho : d.S e W base ok v xs) (ht : ∀ q, q ∈ e :: d.E → q ≠ 53) : d.S e W base (fun k => ok k ∧ k ≠ g) v xs := by
  obtain ⟨A3, c3, A5, c5, hb, hg, hr3, hr5⟩ := h
  exact Kd.S_types ho hb ht
theorem IsS53.own_neS {w0 W : World} {g : Nat} {f0 : ByteArray} {f1 : Int} {f2 : Bool} {f3 : Pin} {f4 : Int} {f5 : Pin} {α : Type} {d : Kd α} {e : Nat} {base : Nat} {ok : Nat → Prop} {v : Value} {xs : List α} (h : IsS53 w0 W g f0 f1 f2 f3 f4 f5) (ho : d.S e W base ok v xs) (ht : e ≠ 53) : some g ≠ v.ownBlock := by
  obtain ⟨A3, c3, A5, c5, hb, hg, hr3, hr5⟩ := h
  exact Kd.S_ne ho hb ht
theorem IsS53.lt {w0 W : World} {g : Nat} {f0 : ByteArray} {f1 : Int} {f2 : Bool} {f3 : Pin} {f4 : Int} {f5 : Pin} (h : IsS53 w0 W g f0 f1 f2 f3 f4 f5) : g < W.heap.size := by
  obtain ⟨A3, c3, A5, c5, hb, hg, hr3, hr5⟩ := h
  exact blk_lt hb
theorem IsS53.ge {w0 W : World} {g : Nat} {f0 : ByteArray} {f1 : Int} {f2 : Bool} {f3 : Pin} {f4 : Int} {f5 : Pin} (h : IsS53 w0 W g f0 f1 f2 f3 f4 f5) : w0.heap.size ≤ g := by
  obtain ⟨A3, c3, A5, c5, hb, hg, hr3, hr5⟩ := h
  exact hg
theorem IsS53.ne_blk {w0 W : World} {g : Nat} {f0 : ByteArray} {f1 : Int} {f2 : Bool} {f3 : Pin} {f4 : Int} {f5 : Pin} {a : Nat} {cs : Array Value} {t : TypeId} {fr : Nat × Nat} (h : IsS53 w0 W g f0 f1 f2 f3 f4 f5) (hb2 : W.heap[a]? = some (.cells cs t fr)) (ht : t ≠ 53) : g ≠ a := by
  obtain ⟨A3, c3, A5, c5, hb, hg, hr3, hr5⟩ := h
  rintro rfl
  rw [hb] at hb2
  injection hb2 with hb2
  injection hb2 with _ ht2
  exact ht ht2.symm
theorem IsS53.far {w0 W : World} {g : Nat} {f0 : ByteArray} {f1 : Int} {f2 : Bool} {f3 : Pin} {f4 : Int} {f5 : Pin} {p : Addr} (h : IsS53 w0 W g f0 f1 f2 f3 f4 f5) (hne : g ≠ p.block) (u : Value) : IsS53 w0 (W.setCell p u) g f0 f1 f2 f3 f4 f5 := by
  obtain ⟨A3, c3, A5, c5, hb, hg, hr3, hr5⟩ := h
  exact ⟨A3, c3, A5, c5, blk_far hb hne u, hg, hr3, hr5⟩
theorem cellS53_0 {W : World} {g : Nat} {A3 : Option Addr} {c3 : Nat} {A5 : Option Addr} {c5 : Nat} {f0 : ByteArray} {f1 : Int} {f2 : Bool} {f3 : Pin} {f4 : Int} {f5 : Pin} (h : W.heap[g]? = some (.cells #[.string f0, .int .i64 f1, .bool f2, .slice A3 f3.n c3, .int .i64 f4, .slice A5 f5.n c5] 53 (0, 0))) : W.cell? ⟨g, 0, none⟩ = some (.string f0) := (blk_cell h 0).trans rfl
theorem IsS53.set_0 {w0 W : World} {g : Nat} {f0 : ByteArray} {f1 : Int} {f2 : Bool} {f3 : Pin} {f4 : Int} {f5 : Pin} (h : IsS53 w0 W g f0 f1 f2 f3 f4 f5) (x : ByteArray) : IsS53 w0 (W.setCell ⟨g, 0, none⟩ (.string x)) g x f1 f2 f3 f4 f5 := by
  obtain ⟨A3, c3, A5, c5, hb, hg, hr3, hr5⟩ := h
  exact ⟨A3, c3, A5, c5, by simpa using blk_set hb 0 (.string x), hg, hr3, hr5⟩
theorem cellS53_1 {W : World} {g : Nat} {A3 : Option Addr} {c3 : Nat} {A5 : Option Addr} {c5 : Nat} {f0 : ByteArray} {f1 : Int} {f2 : Bool} {f3 : Pin} {f4 : Int} {f5 : Pin} (h : W.heap[g]? = some (.cells #[.string f0, .int .i64 f1, .bool f2, .slice A3 f3.n c3, .int .i64 f4, .slice A5 f5.n c5] 53 (0, 0))) : W.cell? ⟨g, 1, none⟩ = some (.int .i64 f1) := (blk_cell h 1).trans rfl
theorem IsS53.set_1 {w0 W : World} {g : Nat} {f0 : ByteArray} {f1 : Int} {f2 : Bool} {f3 : Pin} {f4 : Int} {f5 : Pin} (h : IsS53 w0 W g f0 f1 f2 f3 f4 f5) (x : Int) : IsS53 w0 (W.setCell ⟨g, 1, none⟩ (.int .i64 x)) g f0 x f2 f3 f4 f5 := by
  obtain ⟨A3, c3, A5, c5, hb, hg, hr3, hr5⟩ := h
  exact ⟨A3, c3, A5, c5, by simpa using blk_set hb 1 (.int .i64 x), hg, hr3, hr5⟩
theorem cellS53_2 {W : World} {g : Nat} {A3 : Option Addr} {c3 : Nat} {A5 : Option Addr} {c5 : Nat} {f0 : ByteArray} {f1 : Int} {f2 : Bool} {f3 : Pin} {f4 : Int} {f5 : Pin} (h : W.heap[g]? = some (.cells #[.string f0, .int .i64 f1, .bool f2, .slice A3 f3.n c3, .int .i64 f4, .slice A5 f5.n c5] 53 (0, 0))) : W.cell? ⟨g, 2, none⟩ = some (.bool f2) := (blk_cell h 2).trans rfl
theorem IsS53.set_2 {w0 W : World} {g : Nat} {f0 : ByteArray} {f1 : Int} {f2 : Bool} {f3 : Pin} {f4 : Int} {f5 : Pin} (h : IsS53 w0 W g f0 f1 f2 f3 f4 f5) (x : Bool) : IsS53 w0 (W.setCell ⟨g, 2, none⟩ (.bool x)) g f0 f1 x f3 f4 f5 := by
  obtain ⟨A3, c3, A5, c5, hb, hg, hr3, hr5⟩ := h
  exact ⟨A3, c3, A5, c5, by simpa using blk_set hb 2 (.bool x), hg, hr3, hr5⟩
theorem cellS53_3 {W : World} {g : Nat} {A3 : Option Addr} {c3 : Nat} {A5 : Option Addr} {c5 : Nat} {f0 : ByteArray} {f1 : Int} {f2 : Bool} {f3 : Pin} {f4 : Int} {f5 : Pin} (h : W.heap[g]? = some (.cells #[.string f0, .int .i64 f1, .bool f2, .slice A3 f3.n c3, .int .i64 f4, .slice A5 f5.n c5] 53 (0, 0))) : W.cell? ⟨g, 3, none⟩ = some (.slice A3 f3.n c3) := (blk_cell h 3).trans rfl
theorem cellS53_4 {W : World} {g : Nat} {A3 : Option Addr} {c3 : Nat} {A5 : Option Addr} {c5 : Nat} {f0 : ByteArray} {f1 : Int} {f2 : Bool} {f3 : Pin} {f4 : Int} {f5 : Pin} (h : W.heap[g]? = some (.cells #[.string f0, .int .i64 f1, .bool f2, .slice A3 f3.n c3, .int .i64 f4, .slice A5 f5.n c5] 53 (0, 0))) : W.cell? ⟨g, 4, none⟩ = some (.int .i64 f4) := (blk_cell h 4).trans rfl
theorem IsS53.set_4 {w0 W : World} {g : Nat} {f0 : ByteArray} {f1 : Int} {f2 : Bool} {f3 : Pin} {f4 : Int} {f5 : Pin} (h : IsS53 w0 W g f0 f1 f2 f3 f4 f5) (x : Int) : IsS53 w0 (W.setCell ⟨g, 4, none⟩ (.int .i64 x)) g f0 f1 f2 f3 x f5 := by
  obtain ⟨A3, c3, A5, c5, hb, hg, hr3, hr5⟩ := h
  exact ⟨A3, c3, A5, c5, by simpa using blk_set hb 4 (.int .i64 x), hg, hr3, hr5⟩
theorem cellS53_5 {W : World} {g : Nat} {A3 : Option Addr} {c3 : Nat} {A5 : Option Addr} {c5 : Nat} {f0 : ByteArray} {f1 : Int} {f2 : Bool} {f3 : Pin} {f4 : Int} {f5 : Pin} (h : W.heap[g]? = some (.cells #[.string f0, .int .i64 f1, .bool f2, .slice A3 f3.n c3, .int .i64 f4, .slice A5 f5.n c5] 53 (0, 0))) : W.cell? ⟨g, 5, none⟩ = some (.slice A5 f5.n c5) := (blk_cell h 5).trans rfl
theorem IsS53.new (w0 W : World) (A3 : Option Addr) (c3 : Nat) (A5 : Option Addr) (c5 : Nat) (f0 : ByteArray) (f1 : Int) (f2 : Bool) (f3 : Pin) (f4 : Int) (f5 : Pin) (hB : Below w0.heap.size w0 W) (hr3 : (A3 = f3.A ∧ c3 = f3.c)) (hr5 : (A5 = f5.A ∧ c5 = f5.c)) : IsS53 w0 (W.alloc (.cells #[.string f0, .int .i64 f1, .bool f2, .slice A3 f3.n c3, .int .i64 f4, .slice A5 f5.n c5] 53)) W.heap.size f0 f1 f2 f3 f4 f5 := ⟨A3, c3, A5, c5, by simpa using heap_alloc_new W _, hB.size, hr3, hr5⟩

/-! ### spec_reader_take: function 19 -/
def spec_reader_take.f (s0_0 : ByteArray) (s0_1 : Int) (s0_2 : Bool) (s0_3 : Pin) (s0_4 : Int) (s0_5 : Pin) (a1 : ByteArray) : Option (ByteArray × Int × Bool × Int) := if (wrap64 ((s0_0.size : Int) - s0_1)) < (a1.size : Int) then (some (s0_0, s0_1, true, s0_4)) else (if 0 ≤ s0_1 then (if s0_1 ≤ (wrap64 (s0_1 + (a1.size : Int))) then (if (wrap64 (s0_1 + (a1.size : Int))) ≤ (s0_0.size : Int) then (if (s0_0.extract (s0_1 : Int).toNat ((wrap64 (s0_1 + (a1.size : Int))) : Int).toNat).toList = a1.toList then (some (s0_0, wrap64 (s0_1 + (a1.size : Int)), s0_2, s0_4)) else (some (s0_0, s0_1, true, s0_4))) else (none)) else (none)) else (none))
set_option maxHeartbeats 8000000 in
set_option maxRecDepth 100000 in
theorem spec_reader_take.calls (g : Nat) (s0_0 : ByteArray) (s0_1 : Int) (s0_2 : Bool) (s0_3 : Pin) (s0_4 : Int) (s0_5 : Pin) (a1 : ByteArray) (r1 : ByteArray) (r2 : Int) (r3 : Bool) (r4 : Int) (w0 w : World) (hI : IsS53 w0 w g s0_0 s0_1 s0_2 s0_3 s0_4 s0_5) (hB : Below w0.heap.size w0 w) (h : spec_reader_take.f s0_0 s0_1 s0_2 s0_3 s0_4 s0_5 a1 = some (r1, r2, r3, r4)) :
    Calls Tryd.prog 19 #[.pointer (some ⟨g, 0, none⟩), .string a1] w fun e w' => e = .returned (.tuple #[]) ∧ IsS53 w0 w' g r1 r2 r3 s0_3 r4 s0_5 ∧ Below w0.heap.size w0 w' ∧ KeepBut w w' g none := by
  have HI0 := Aside0.mk hI
  have HK := Aside0.mk (KeepBut.refl w g none)
  have HL := Aside0.mk hB.size
  clear hI
  have HW0 := Aside0.mk hB.size
  have HB := Aside0.mk hB
  clear hB
  have H : (if (wrap64 ((s0_0.size : Int) - s0_1)) < (a1.size : Int) then (some (s0_0, s0_1, true, s0_4)) else (if 0 ≤ s0_1 then (if s0_1 ≤ (wrap64 (s0_1 + (a1.size : Int))) then (if (wrap64 (s0_1 + (a1.size : Int))) ≤ (s0_0.size : Int) then (if (s0_0.extract (s0_1 : Int).toNat ((wrap64 (s0_1 + (a1.size : Int))) : Int).toNat).toList = a1.toList then (some (s0_0, wrap64 (s0_1 + (a1.size : Int)), s0_2, s0_4)) else (some (s0_0, s0_1, true, s0_4))) else (none)) else (none)) else (none))) = some (r1, r2, r3, r4) := h
  clear h
  by_cases c3 : (wrap64 ((s0_0.size : Int) - s0_1)) < (a1.size : Int)
  · rw [if_pos c3] at H
    have c3b0 : decide ((wrap64 ((s0_0.size : Int) - s0_1)) < (a1.size : Int)) = true := decide_eq_true c3
    clear c3
    simp only [Option.some.injEq, Prod.mk.injEq] at H
    obtain ⟨rfl, rfl, rfl, rfl⟩ := H
    obtain ⟨ASz4_3, cSz4_3, ASz4_5, cSz4_5, HGz4, hgz4, HSz4_3, HSz4_5⟩ := HI0.out
    have hcz4_0 := cellS53_0 HGz4
    have hcz4_1 := cellS53_1 HGz4
    have hcz4_2 := cellS53_2 HGz4
    have hcz4_3 := cellS53_3 HGz4
    have hcz4_4 := cellS53_4 HGz4
    have hcz4_5 := cellS53_5 HGz4
    have hfz4_0 := blk_frozen HGz4 0
    have hfz4_1 := blk_frozen HGz4 1
    have hfz4_2 := blk_frozen HGz4 2
    have hfz4_4 := blk_frozen HGz4 4
    clear HGz4 hgz4
    go_enter Tryd.func19, Tryd.ntmps19
    go_wp2
    repeat (go_quiet (fail); try go_wp2)
    first | go_end0 | ((try simp only [Exit.inBlock, Exit.then]); refine bodyPost_ret (results_none rfl _ _ _) rfl ?_)
    exact ⟨by first | rfl | (simp [errW_none, errW_some] <;> rfl) | (simp [*, errW_none, errW_some] <;> rfl), by repeat (first | (with_reducible first | exact HI0.out | apply IsS53.alloc | apply IsS53.drewN | apply IsS53.drew | apply IsS53.set_0 | apply IsS53.set_1 | apply IsS53.set_2 | apply IsS53.set_4) | exact HI0.out), by repeat (first | (with_reducible first | exact HB.out | apply below_alloc | apply pw_below_drewN | apply below_drew1 | refine below_set ?_ (IsS53.ge HI0.out)) | exact HB.out), by repeat (first | (with_reducible first | exact HK.out | apply KeepBut.set_ | apply keep_drewN | apply keep_drew | apply keep_alloc) | exact HK.out)⟩
  · rw [if_neg c3] at H
    have c3b0 : decide ((wrap64 ((s0_0.size : Int) - s0_1)) < (a1.size : Int)) = false := decide_eq_false c3
    clear c3
    by_cases c5 : 0 ≤ s0_1
    · rw [if_pos c5] at H
      have c5b0 := eq_true c5
      have c5b1 : decide (0 ≤ s0_1) = true := decide_eq_true c5
      clear c5
      by_cases c6 : s0_1 ≤ (wrap64 (s0_1 + (a1.size : Int)))
      · rw [if_pos c6] at H
        have c6b0 := eq_true c6
        have c6b1 : decide (s0_1 ≤ (wrap64 (s0_1 + (a1.size : Int)))) = true := decide_eq_true c6
        by_cases c7 : (wrap64 (s0_1 + (a1.size : Int))) ≤ (s0_0.size : Int)
        · rw [if_pos c7] at H
          have c7b0 := eq_true c7
          have c7b1 : decide ((wrap64 (s0_1 + (a1.size : Int))) ≤ (s0_0.size : Int)) = true := decide_eq_true c7
          by_cases c8 : (s0_0.extract (s0_1 : Int).toNat ((wrap64 (s0_1 + (a1.size : Int))) : Int).toNat).toList = a1.toList
          · rw [if_pos c8] at H
            have c8b0 : ((s0_0.extract (s0_1 : Int).toNat ((wrap64 (s0_1 + (a1.size : Int))) : Int).toNat).toList == a1.toList) = true := beq_iff_eq.mpr c8
            have c8b1 : ((s0_0.extract (s0_1 : Int).toNat ((wrap64 (s0_1 + (a1.size : Int))) : Int).toNat).toList != a1.toList) = false := bne_eq_false_iff_eq.mpr c8
            clear c8
            simp only [Option.some.injEq, Prod.mk.injEq] at H
            obtain ⟨rfl, rfl, rfl, rfl⟩ := H
            obtain ⟨ASz9_3, cSz9_3, ASz9_5, cSz9_5, HGz9, hgz9, HSz9_3, HSz9_5⟩ := HI0.out
            have hcz9_0 := cellS53_0 HGz9
            have hcz9_1 := cellS53_1 HGz9
            have hcz9_2 := cellS53_2 HGz9
            have hcz9_3 := cellS53_3 HGz9
            have hcz9_4 := cellS53_4 HGz9
            have hcz9_5 := cellS53_5 HGz9
            have hfz9_0 := blk_frozen HGz9 0
            have hfz9_1 := blk_frozen HGz9 1
            have hfz9_2 := blk_frozen HGz9 2
            have hfz9_4 := blk_frozen HGz9 4
            clear HGz9 hgz9
            go_enter Tryd.func19, Tryd.ntmps19
            go_wp2
            repeat (go_quiet (fail); try go_wp2)
            first | go_end0 | ((try simp only [Exit.inBlock, Exit.then]); refine bodyPost_ret (results_none rfl _ _ _) rfl ?_)
            exact ⟨by first | rfl | (simp [errW_none, errW_some] <;> rfl) | (simp [*, errW_none, errW_some] <;> rfl), by repeat (first | (with_reducible first | exact HI0.out | apply IsS53.alloc | apply IsS53.drewN | apply IsS53.drew | apply IsS53.set_0 | apply IsS53.set_1 | apply IsS53.set_2 | apply IsS53.set_4) | exact HI0.out), by repeat (first | (with_reducible first | exact HB.out | apply below_alloc | apply pw_below_drewN | apply below_drew1 | refine below_set ?_ (IsS53.ge HI0.out)) | exact HB.out), by repeat (first | (with_reducible first | exact HK.out | apply KeepBut.set_ | apply keep_drewN | apply keep_drew | apply keep_alloc) | exact HK.out)⟩
          · rw [if_neg c8] at H
            have c8b0 : ((s0_0.extract (s0_1 : Int).toNat ((wrap64 (s0_1 + (a1.size : Int))) : Int).toNat).toList == a1.toList) = false := beq_eq_false_iff_ne.mpr c8
            have c8b1 : ((s0_0.extract (s0_1 : Int).toNat ((wrap64 (s0_1 + (a1.size : Int))) : Int).toNat).toList != a1.toList) = true := bne_iff_ne.mpr c8
            simp only [Option.some.injEq, Prod.mk.injEq] at H
            obtain ⟨rfl, rfl, rfl, rfl⟩ := H
            obtain ⟨ASz10_3, cSz10_3, ASz10_5, cSz10_5, HGz10, hgz10, HSz10_3, HSz10_5⟩ := HI0.out
            have hcz10_0 := cellS53_0 HGz10
            have hcz10_1 := cellS53_1 HGz10
            have hcz10_2 := cellS53_2 HGz10
            have hcz10_3 := cellS53_3 HGz10
            have hcz10_4 := cellS53_4 HGz10
            have hcz10_5 := cellS53_5 HGz10
            have hfz10_0 := blk_frozen HGz10 0
            have hfz10_1 := blk_frozen HGz10 1
            have hfz10_2 := blk_frozen HGz10 2
            have hfz10_4 := blk_frozen HGz10 4
            clear HGz10 hgz10
            go_enter Tryd.func19, Tryd.ntmps19
            go_wp2
            repeat (go_quiet (fail); try go_wp2)
            first | go_end0 | ((try simp only [Exit.inBlock, Exit.then]); refine bodyPost_ret (results_none rfl _ _ _) rfl ?_)
            exact ⟨by first | rfl | (simp [errW_none, errW_some] <;> rfl) | (simp [*, errW_none, errW_some] <;> rfl), by repeat (first | (with_reducible first | exact HI0.out | apply IsS53.alloc | apply IsS53.drewN | apply IsS53.drew | apply IsS53.set_0 | apply IsS53.set_1 | apply IsS53.set_2 | apply IsS53.set_4) | exact HI0.out), by repeat (first | (with_reducible first | exact HB.out | apply below_alloc | apply pw_below_drewN | apply below_drew1 | refine below_set ?_ (IsS53.ge HI0.out)) | exact HB.out), by repeat (first | (with_reducible first | exact HK.out | apply KeepBut.set_ | apply keep_drewN | apply keep_drew | apply keep_alloc) | exact HK.out)⟩
        · rw [if_neg c7] at H
          exact absurd H (by simp)
      · rw [if_neg c6] at H
        exact absurd H (by simp)
    · rw [if_neg c5] at H
      exact absurd H (by simp)

/-! ### spec_reader_number: function 46 -/
mutual
def spec_reader_number.l0 : Nat → Int → Int → ByteArray → Int → Bool → Pin → Int → Pin → Option (Int × ByteArray × Int × Bool × Int)
  | 0, _, _, _, _, _, _, _, _ => none
  | k + 1, x3, x4, x1000, x1001, x1002, x1003, x1004, x1005 => if x1001 < (x1000.size : Int) then (if x4 < 18 then (if 0 ≤ x1001 then (if (bt x1000 x1001) ≥ 48 then (spec_reader_number.j1 k x3 x4 (decide ((bt x1000 x1001) ≤ 57)) x1000 x1001 x1002 x1003 x1004 x1005) else (spec_reader_number.j1 k x3 x4 false x1000 x1001 x1002 x1003 x1004 x1005)) else (none)) else (spec_reader_number.j1 k x3 x4 false x1000 x1001 x1002 x1003 x1004 x1005)) else (spec_reader_number.j1 k x3 x4 false x1000 x1001 x1002 x1003 x1004 x1005)
def spec_reader_number.j1 : Nat → Int → Int → Bool → ByteArray → Int → Bool → Pin → Int → Pin → Option (Int × ByteArray × Int × Bool × Int)
  | 0, _, _, _, _, _, _, _, _, _ => none
  | k + 1, x3, x4, x42, x1000, x1001, x1002, x1003, x1004, x1005 => if x42 = true then (if x4 > 0 then (if x3 = 0 then (if 0 ≤ x1001 then (if x1001 < (x1000.size : Int) then (spec_reader_number.l0 k (wrap64 ((wrap64 (10 * x3)) + (((bt x1000 x1001) - 48) % 256))) (wrap64 (x4 + 1)) x1000 (wrap64 (x1001 + 1)) true x1003 x1004 x1005) else (none)) else (none)) else (if 0 ≤ x1001 then (if x1001 < (x1000.size : Int) then (spec_reader_number.l0 k (wrap64 ((wrap64 (10 * x3)) + (((bt x1000 x1001) - 48) % 256))) (wrap64 (x4 + 1)) x1000 (wrap64 (x1001 + 1)) x1002 x1003 x1004 x1005) else (none)) else (none))) else (if 0 ≤ x1001 then (if x1001 < (x1000.size : Int) then (spec_reader_number.l0 k (wrap64 ((wrap64 (10 * x3)) + (((bt x1000 x1001) - 48) % 256))) (wrap64 (x4 + 1)) x1000 (wrap64 (x1001 + 1)) x1002 x1003 x1004 x1005) else (none)) else (none))) else (if x1002 = true then (some (x3, x1000, x1001, true, x1004)) else (some (x3, x1000, x1001, (x4 == 0), x1004)))
end
def spec_reader_number.f (k : Nat) (s0_0 : ByteArray) (s0_1 : Int) (s0_2 : Bool) (s0_3 : Pin) (s0_4 : Int) (s0_5 : Pin) : Option (Int × ByteArray × Int × Bool × Int) := spec_reader_number.l0 k 0 0 s0_0 s0_1 s0_2 s0_3 s0_4 s0_5
theorem spec_reader_number.mono_l : ∀ k, (∀ y0 y1 y2 y3 y4 y5 y6 y7, LeO (spec_reader_number.l0 k y0 y1 y2 y3 y4 y5 y6 y7) (spec_reader_number.l0 (k + 1) y0 y1 y2 y3 y4 y5 y6 y7)) ∧ (∀ y0 y1 y2 y3 y4 y5 y6 y7 y8, LeO (spec_reader_number.j1 k y0 y1 y2 y3 y4 y5 y6 y7 y8) (spec_reader_number.j1 (k + 1) y0 y1 y2 y3 y4 y5 y6 y7 y8))
  | 0 => ⟨fun _ _ _ _ _ _ _ _ r h => by simp [spec_reader_number.l0] at h, fun _ _ _ _ _ _ _ _ _ r h => by simp [spec_reader_number.j1] at h⟩
  | k + 1 => by
    obtain ⟨ih0, ih1⟩ := spec_reader_number.mono_l k
    refine ⟨?_, ?_⟩
    · intro y0 y1 y2 y3 y4 y5 y6 y7
      unfold spec_reader_number.l0
      repeat' first
      | (with_reducible exact ih0 _ _ _ _ _ _ _ _)
      | (with_reducible exact ih1 _ _ _ _ _ _ _ _ _)
      | (with_reducible exact LeO.refl _)
      | (with_reducible exact LeO.none _)
      | (with_reducible refine LeO.ite ?_ ?_)
      | (with_reducible refine LeO.bind ?_ (fun _ => ?_))
      | exact ih0 _ _ _ _ _ _ _ _
      | exact ih1 _ _ _ _ _ _ _ _ _
      | exact LeO.none _
      | refine LeO.ite ?_ ?_
      | refine LeO.bind ?_ (fun _ => ?_)
    · intro y0 y1 y2 y3 y4 y5 y6 y7 y8
      unfold spec_reader_number.j1
      repeat' first
      | (with_reducible exact ih0 _ _ _ _ _ _ _ _)
      | (with_reducible exact ih1 _ _ _ _ _ _ _ _ _)
      | (with_reducible exact LeO.refl _)
      | (with_reducible exact LeO.none _)
      | (with_reducible refine LeO.ite ?_ ?_)
      | (with_reducible refine LeO.bind ?_ (fun _ => ?_))
      | exact ih0 _ _ _ _ _ _ _ _
      | exact ih1 _ _ _ _ _ _ _ _ _
      | exact LeO.none _
      | refine LeO.ite ?_ ?_
      | refine LeO.bind ?_ (fun _ => ?_)
theorem spec_reader_number.mono : ∀ a0 a1 a2 a3 a4 a5 k, LeO (spec_reader_number.f k a0 a1 a2 a3 a4 a5) (spec_reader_number.f (k + 1) a0 a1 a2 a3 a4 a5) := by
  intro a0 a1 a2 a3 a4 a5 k
  obtain ⟨ih0, ih1⟩ := spec_reader_number.mono_l k
  unfold spec_reader_number.f
  repeat' first
      | (with_reducible exact ih0 _ _ _ _ _ _ _ _)
      | (with_reducible exact ih1 _ _ _ _ _ _ _ _ _)
      | (with_reducible exact LeO.refl _)
      | (with_reducible exact LeO.none _)
      | (with_reducible refine LeO.ite ?_ ?_)
      | (with_reducible refine LeO.bind ?_ (fun _ => ?_))
      | exact ih0 _ _ _ _ _ _ _ _
      | exact ih1 _ _ _ _ _ _ _ _ _
      | exact LeO.none _
      | refine LeO.ite ?_ ?_
      | refine LeO.bind ?_ (fun _ => ?_)
set_option maxHeartbeats 8000000 in
set_option maxRecDepth 100000 in
theorem spec_reader_number.calls (k : Nat) (g : Nat) (s0_0 : ByteArray) (s0_1 : Int) (s0_2 : Bool) (s0_3 : Pin) (s0_4 : Int) (s0_5 : Pin) (r1 : Int) (r2 : ByteArray) (r3 : Int) (r4 : Bool) (r5 : Int) (w0 w : World) (hI : IsS53 w0 w g s0_0 s0_1 s0_2 s0_3 s0_4 s0_5) (hB : Below w0.heap.size w0 w) (h : spec_reader_number.f k s0_0 s0_1 s0_2 s0_3 s0_4 s0_5 = some (r1, r2, r3, r4, r5)) :
    Calls Tryd.prog 46 #[.pointer (some ⟨g, 0, none⟩)] w fun e w' => e = .returned (.int .i64 r1) ∧ IsS53 w0 w' g r2 r3 r4 s0_3 r5 s0_5 ∧ Below w0.heap.size w0 w' ∧ KeepBut w w' g none := by
  have HI0 := Aside0.mk hI
  have HK := Aside0.mk (KeepBut.refl w g none)
  have HL := Aside0.mk hB.size
  clear hI
  have HW0 := Aside0.mk hB.size
  have HB := Aside0.mk hB
  clear hB
  have H : (spec_reader_number.l0 k 0 0 s0_0 s0_1 s0_2 s0_3 s0_4 s0_5) = some (r1, r2, r3, r4, r5) := h
  clear h
  have H' := Aside0.mk H
  clear H
  go_enter Tryd.func46, Tryd.ntmps46
  go_wp2
  repeat (go_quiet (fail); try go_wp2)
  go_loopg [3, 4] k (fun kq v3 v4 w' => ∃ (x3_1 : Int) (x4_1 : Int) (x1001_1 : Int) (x1002_1 : Bool), v3 = .int .i64 x3_1 ∧ v4 = .int .i64 x4_1 ∧ Aside0 (spec_reader_number.l0 kq x3_1 x4_1 s0_0 x1001_1 x1002_1 s0_3 s0_4 s0_5 = some (r1, r2, r3, r4, r5)) ∧ Aside0 (kq ≤ k) ∧ Aside0 (IsS53 w0 w' g s0_0 x1001_1 x1002_1 s0_3 s0_4 s0_5) ∧ Aside0 (KeepBut w w' g none) ∧ Aside0 (Below w0.heap.size w0 w'))
  case atStart => exact ⟨(0), (0), (s0_1), (s0_2), (by first | rfl | (simp; done) | (simp [*]; done)), (by first | rfl | (simp; done) | (simp [*]; done)), H', ⟨Nat.le_refl _⟩, ⟨by repeat (first | (with_reducible first | exact HI0.out | apply IsS53.alloc | apply IsS53.drewN | apply IsS53.drew | apply IsS53.set_0 | apply IsS53.set_1 | apply IsS53.set_2 | apply IsS53.set_4) | exact HI0.out)⟩, ⟨by repeat (first | (with_reducible first | exact HK.out | apply KeepBut.set_ | apply keep_drewN | apply keep_drew | apply keep_alloc) | exact HK.out)⟩, ⟨by repeat (first | (with_reducible first | exact HB.out | apply below_alloc | apply pw_below_drewN | apply below_drew1 | refine below_set ?_ (IsS53.ge HI0.out)) | exact HB.out)⟩⟩
  case round =>
    clear H'
    obtain ⟨x3_1, x4_1, x1001_1, x1002_1, rfl, rfl, HA, HK1, HI0, HK, HB⟩ := hrel
    cases gk with
    | zero => exact absurd HA.out (by simp [spec_reader_number.l0])
    | succ k1 =>
      have H := HA.out
      clear HA
      simp only [spec_reader_number.l0] at H
      have HC2 := Aside0.mk H
      clear H
      go_upto_region 2 with (fail)
      repeat (go_quiet (fail); go_upto_region 2 with (fail))
      go_cut [42] (fun v42 wc => ∃ (kq : Nat) (x42_1 : Bool), v42 = .bool x42_1 ∧ Aside0 (spec_reader_number.j1 kq x3_1 x4_1 x42_1 s0_0 x1001_1 x1002_1 s0_3 s0_4 s0_5 = some (r1, r2, r3, r4, r5)) ∧ Aside0 (kq ≤ k1) ∧ Aside0 (IsS53 w0 wc g s0_0 x1001_1 x1002_1 s0_3 s0_4 s0_5) ∧ Aside0 (KeepBut w wc g none) ∧ Aside0 (Below w0.heap.size w0 wc))
      case first =>
        have H := HC2.out
        clear HC2
        by_cases c3 : x1001_1 < (s0_0.size : Int)
        · rw [if_pos c3] at H
          have c3b0 : decide (x1001_1 < (s0_0.size : Int)) = true := decide_eq_true c3
          clear c3
          (first | rw [c3b0] | (simp only [i64_w, i32_w]; rw [c3b0]) | skip)
          by_cases c4 : x4_1 < 18
          · rw [if_pos c4] at H
            have c4b0 : decide (x4_1 < 18) = true := decide_eq_true c4
            clear c4
            by_cases c5 : 0 ≤ x1001_1
            · rw [if_pos c5] at H
              have c5b0 : decide (0 ≤ x1001_1) = true := decide_eq_true c5
              clear c5
              by_cases c7 : (bt s0_0 x1001_1) ≥ 48
              · rw [if_pos c7] at H
                have c7b0 : decide (48 ≤ (bt s0_0 x1001_1)) = true := decide_eq_true c7
                clear c7
                have H' := Aside0.mk H
                clear H
                obtain ⟨ASz9_3, cSz9_3, ASz9_5, cSz9_5, HGz9, hgz9, HSz9_3, HSz9_5⟩ := HI0.out
                have hcz9_0 := cellS53_0 HGz9
                have hcz9_1 := cellS53_1 HGz9
                have hcz9_2 := cellS53_2 HGz9
                have hcz9_3 := cellS53_3 HGz9
                have hcz9_4 := cellS53_4 HGz9
                have hcz9_5 := cellS53_5 HGz9
                have hfz9_0 := blk_frozen HGz9 0
                have hfz9_1 := blk_frozen HGz9 1
                have hfz9_2 := blk_frozen HGz9 2
                have hfz9_4 := blk_frozen HGz9 4
                clear HGz9 hgz9
                have p6 : 0 ≤ (x1001_1 : Int) := of_decide_eq_true (by first | (with_reducible assumption) | assumption)
                have q6 : x1001_1 < (s0_0.size : Int) := of_decide_eq_true (by first | (with_reducible assumption) | assumption)
                have hx6 := bt_at s0_0 x1001_1
                replace p6 := eq_true p6
                replace q6 := eq_true q6
                have p8 : 0 ≤ (x1001_1 : Int) := of_decide_eq_true (by first | (with_reducible assumption) | assumption)
                have q8 : x1001_1 < (s0_0.size : Int) := of_decide_eq_true (by first | (with_reducible assumption) | assumption)
                have hx8 := bt_at s0_0 x1001_1
                replace p8 := eq_true p8
                replace q8 := eq_true q8
                go_wp2
                repeat (go_quiet (fail); try go_wp2)
                go_meet
                case rel => exact ⟨_, (decide ((bt s0_0 x1001_1) ≤ 57)), (by first | rfl | (simp; done) | (simp [*]; done)), H', ⟨by have := HK1.out; first | omega | exact Nat.le_refl _⟩, ⟨by repeat (first | (with_reducible first | exact HI0.out | apply IsS53.alloc | apply IsS53.drewN | apply IsS53.drew | apply IsS53.set_0 | apply IsS53.set_1 | apply IsS53.set_2 | apply IsS53.set_4) | exact HI0.out)⟩, ⟨by repeat (first | (with_reducible first | exact HK.out | apply KeepBut.set_ | apply keep_drewN | apply keep_drew | apply keep_alloc) | exact HK.out)⟩, ⟨by repeat (first | (with_reducible first | exact HB.out | apply below_alloc | apply pw_below_drewN | apply below_drew1 | refine below_set ?_ (IsS53.ge HI0.out)) | exact HB.out)⟩⟩
              · rw [if_neg c7] at H
                have c7b0 : decide (48 ≤ (bt s0_0 x1001_1)) = false := decide_eq_false c7
                clear c7
                have H' := Aside0.mk H
                clear H
                obtain ⟨ASz10_3, cSz10_3, ASz10_5, cSz10_5, HGz10, hgz10, HSz10_3, HSz10_5⟩ := HI0.out
                have hcz10_0 := cellS53_0 HGz10
                have hcz10_1 := cellS53_1 HGz10
                have hcz10_2 := cellS53_2 HGz10
                have hcz10_3 := cellS53_3 HGz10
                have hcz10_4 := cellS53_4 HGz10
                have hcz10_5 := cellS53_5 HGz10
                have hfz10_0 := blk_frozen HGz10 0
                have hfz10_1 := blk_frozen HGz10 1
                have hfz10_2 := blk_frozen HGz10 2
                have hfz10_4 := blk_frozen HGz10 4
                clear HGz10 hgz10
                have p6 : 0 ≤ (x1001_1 : Int) := of_decide_eq_true (by first | (with_reducible assumption) | assumption)
                have q6 : x1001_1 < (s0_0.size : Int) := of_decide_eq_true (by first | (with_reducible assumption) | assumption)
                have hx6 := bt_at s0_0 x1001_1
                replace p6 := eq_true p6
                replace q6 := eq_true q6
                go_wp2
                repeat (go_quiet (fail); try go_wp2)
                go_meet
                case rel => exact ⟨_, (false), (by first | rfl | (simp; done) | (simp [*]; done)), H', ⟨by have := HK1.out; first | omega | exact Nat.le_refl _⟩, ⟨by repeat (first | (with_reducible first | exact HI0.out | apply IsS53.alloc | apply IsS53.drewN | apply IsS53.drew | apply IsS53.set_0 | apply IsS53.set_1 | apply IsS53.set_2 | apply IsS53.set_4) | exact HI0.out)⟩, ⟨by repeat (first | (with_reducible first | exact HK.out | apply KeepBut.set_ | apply keep_drewN | apply keep_drew | apply keep_alloc) | exact HK.out)⟩, ⟨by repeat (first | (with_reducible first | exact HB.out | apply below_alloc | apply pw_below_drewN | apply below_drew1 | refine below_set ?_ (IsS53.ge HI0.out)) | exact HB.out)⟩⟩
            · rw [if_neg c5] at H
              exact absurd H (by simp)
          · rw [if_neg c4] at H
            have c4b0 : decide (x4_1 < 18) = false := decide_eq_false c4
            clear c4
            have H' := Aside0.mk H
            clear H
            obtain ⟨ASz11_3, cSz11_3, ASz11_5, cSz11_5, HGz11, hgz11, HSz11_3, HSz11_5⟩ := HI0.out
            have hcz11_0 := cellS53_0 HGz11
            have hcz11_1 := cellS53_1 HGz11
            have hcz11_2 := cellS53_2 HGz11
            have hcz11_3 := cellS53_3 HGz11
            have hcz11_4 := cellS53_4 HGz11
            have hcz11_5 := cellS53_5 HGz11
            have hfz11_0 := blk_frozen HGz11 0
            have hfz11_1 := blk_frozen HGz11 1
            have hfz11_2 := blk_frozen HGz11 2
            have hfz11_4 := blk_frozen HGz11 4
            clear HGz11 hgz11
            go_wp2
            repeat (go_quiet (fail); try go_wp2)
            go_meet
            case rel => exact ⟨_, (false), (by first | rfl | (simp; done) | (simp [*]; done)), H', ⟨by have := HK1.out; first | omega | exact Nat.le_refl _⟩, ⟨by repeat (first | (with_reducible first | exact HI0.out | apply IsS53.alloc | apply IsS53.drewN | apply IsS53.drew | apply IsS53.set_0 | apply IsS53.set_1 | apply IsS53.set_2 | apply IsS53.set_4) | exact HI0.out)⟩, ⟨by repeat (first | (with_reducible first | exact HK.out | apply KeepBut.set_ | apply keep_drewN | apply keep_drew | apply keep_alloc) | exact HK.out)⟩, ⟨by repeat (first | (with_reducible first | exact HB.out | apply below_alloc | apply pw_below_drewN | apply below_drew1 | refine below_set ?_ (IsS53.ge HI0.out)) | exact HB.out)⟩⟩
        · rw [if_neg c3] at H
          have c3b0 : decide (x1001_1 < (s0_0.size : Int)) = false := decide_eq_false c3
          clear c3
          (first | rw [c3b0] | (simp only [i64_w, i32_w]; rw [c3b0]) | skip)
          have H' := Aside0.mk H
          clear H
          obtain ⟨ASz12_3, cSz12_3, ASz12_5, cSz12_5, HGz12, hgz12, HSz12_3, HSz12_5⟩ := HI0.out
          have hcz12_0 := cellS53_0 HGz12
          have hcz12_1 := cellS53_1 HGz12
          have hcz12_2 := cellS53_2 HGz12
          have hcz12_3 := cellS53_3 HGz12
          have hcz12_4 := cellS53_4 HGz12
          have hcz12_5 := cellS53_5 HGz12
          have hfz12_0 := blk_frozen HGz12 0
          have hfz12_1 := blk_frozen HGz12 1
          have hfz12_2 := blk_frozen HGz12 2
          have hfz12_4 := blk_frozen HGz12 4
          clear HGz12 hgz12
          go_wp2
          repeat (go_quiet (fail); try go_wp2)
          go_meet
          case rel => exact ⟨_, (false), (by first | rfl | (simp; done) | (simp [*]; done)), H', ⟨by have := HK1.out; first | omega | exact Nat.le_refl _⟩, ⟨by repeat (first | (with_reducible first | exact HI0.out | apply IsS53.alloc | apply IsS53.drewN | apply IsS53.drew | apply IsS53.set_0 | apply IsS53.set_1 | apply IsS53.set_2 | apply IsS53.set_4) | exact HI0.out)⟩, ⟨by repeat (first | (with_reducible first | exact HK.out | apply KeepBut.set_ | apply keep_drewN | apply keep_drew | apply keep_alloc) | exact HK.out)⟩, ⟨by repeat (first | (with_reducible first | exact HB.out | apply below_alloc | apply pw_below_drewN | apply below_drew1 | refine below_set ?_ (IsS53.ge HI0.out)) | exact HB.out)⟩⟩
      case rest =>
        clear HC2
        try clear p2
        try clear c3
        try clear c3b0
        try clear c4
        try clear c4b0
        try clear c5
        try clear c5b0
        try clear p6
        try clear q6
        try clear hx6
        try clear c7
        try clear c7b0
        try clear p8
        try clear q8
        try clear hx8
        try clear hcz10_0
        try clear hcz10_1
        try clear hcz10_2
        try clear hcz10_3
        try clear hcz10_4
        try clear hcz10_5
        try clear hcz11_0
        try clear hcz11_1
        try clear hcz11_2
        try clear hcz11_3
        try clear hcz11_4
        try clear hcz11_5
        try clear hcz12_0
        try clear hcz12_1
        try clear hcz12_2
        try clear hcz12_3
        try clear hcz12_4
        try clear hcz12_5
        try clear hcz9_0
        try clear hcz9_1
        try clear hcz9_2
        try clear hcz9_3
        try clear hcz9_4
        try clear hcz9_5
        try clear hfz10_0
        try clear hfz10_1
        try clear hfz10_2
        try clear hfz10_4
        try clear hfz11_0
        try clear hfz11_1
        try clear hfz11_2
        try clear hfz11_4
        try clear hfz12_0
        try clear hfz12_1
        try clear hfz12_2
        try clear hfz12_4
        try clear hfz9_0
        try clear hfz9_1
        try clear hfz9_2
        try clear hfz9_4
        try clear p6
        try clear p8
        try clear q6
        try clear q8
        obtain ⟨kq, x42_1, rfl, HA, HJ1, HI0, HK, HB⟩ := hcut
        cases kq with
        | zero => exact absurd HA.out (by simp [spec_reader_number.j1])
        | succ kj1 =>
          have H := HA.out
          clear HA
          simp only [spec_reader_number.j1] at H
          by_cases c13 : x42_1 = true
          · subst c13
            have H1 : (if x4_1 > 0 then (if x3_1 = 0 then (if 0 ≤ x1001_1 then (if x1001_1 < (s0_0.size : Int) then (spec_reader_number.l0 kj1 (wrap64 ((wrap64 (10 * x3_1)) + (((bt s0_0 x1001_1) - 48) % 256))) (wrap64 (x4_1 + 1)) s0_0 (wrap64 (x1001_1 + 1)) true s0_3 s0_4 s0_5) else (none)) else (none)) else (if 0 ≤ x1001_1 then (if x1001_1 < (s0_0.size : Int) then (spec_reader_number.l0 kj1 (wrap64 ((wrap64 (10 * x3_1)) + (((bt s0_0 x1001_1) - 48) % 256))) (wrap64 (x4_1 + 1)) s0_0 (wrap64 (x1001_1 + 1)) x1002_1 s0_3 s0_4 s0_5) else (none)) else (none))) else (if 0 ≤ x1001_1 then (if x1001_1 < (s0_0.size : Int) then (spec_reader_number.l0 kj1 (wrap64 ((wrap64 (10 * x3_1)) + (((bt s0_0 x1001_1) - 48) % 256))) (wrap64 (x4_1 + 1)) s0_0 (wrap64 (x1001_1 + 1)) x1002_1 s0_3 s0_4 s0_5) else (none)) else (none))) = some (r1, r2, r3, r4, r5) := by rw [if_pos rfl] at H; exact H
            clear H
            have H := H1
            clear H1
            by_cases c14 : x4_1 > 0
            · rw [if_pos c14] at H
              have c14b0 : decide (0 < x4_1) = true := decide_eq_true c14
              clear c14
              by_cases c15 : x3_1 = 0
              · rw [if_pos c15] at H
                have c15b0 : (x3_1 == 0) = true := beq_iff_eq.mpr c15
                have c15b1 : (x3_1 != 0) = false := bne_eq_false_iff_eq.mpr c15
                clear c15
                by_cases c16 : 0 ≤ x1001_1
                · rw [if_pos c16] at H
                  have c16b0 : decide (0 ≤ x1001_1) = true := decide_eq_true c16
                  clear c16
                  by_cases c17 : x1001_1 < (s0_0.size : Int)
                  · rw [if_pos c17] at H
                    have c17b0 : decide (x1001_1 < (s0_0.size : Int)) = true := decide_eq_true c17
                    clear c17
                    have H' := Aside0.mk H
                    clear H
                    obtain ⟨ASz19_3, cSz19_3, ASz19_5, cSz19_5, HGz19, hgz19, HSz19_3, HSz19_5⟩ := HI0.out
                    have hcz19_0 := cellS53_0 HGz19
                    have hcz19_1 := cellS53_1 HGz19
                    have hcz19_2 := cellS53_2 HGz19
                    have hcz19_3 := cellS53_3 HGz19
                    have hcz19_4 := cellS53_4 HGz19
                    have hcz19_5 := cellS53_5 HGz19
                    have hfz19_0 := blk_frozen HGz19 0
                    have hfz19_1 := blk_frozen HGz19 1
                    have hfz19_2 := blk_frozen HGz19 2
                    have hfz19_4 := blk_frozen HGz19 4
                    clear HGz19 hgz19
                    have p18 : 0 ≤ (x1001_1 : Int) := of_decide_eq_true (by first | (with_reducible assumption) | assumption)
                    have q18 : x1001_1 < (s0_0.size : Int) := of_decide_eq_true (by first | (with_reducible assumption) | assumption)
                    have hx18 := bt_at s0_0 x1001_1
                    replace p18 := eq_true p18
                    replace q18 := eq_true q18
                    go_wp2
                    repeat (go_quiet (fail); try go_wp2)
                    go_roundg kj1
                    case measure => have := HK1.out; have := HJ1.out; omega
                    case rel => exact ⟨(wrap64 ((wrap64 (10 * x3_1)) + (((bt s0_0 x1001_1) - 48) % 256))), (wrap64 (x4_1 + 1)), (wrap64 (x1001_1 + 1)), (true), (by first | rfl | (simp; done) | (simp [*]; done)), (by first | rfl | (simp; done) | (simp [*]; done)), H', ⟨by have := HK1.out; have := HJ1.out; omega⟩, ⟨by repeat (first | (with_reducible first | exact HI0.out | apply IsS53.alloc | apply IsS53.drewN | apply IsS53.drew | apply IsS53.set_0 | apply IsS53.set_1 | apply IsS53.set_2 | apply IsS53.set_4) | exact HI0.out)⟩, ⟨by repeat (first | (with_reducible first | exact HK.out | apply KeepBut.set_ | apply keep_drewN | apply keep_drew | apply keep_alloc) | exact HK.out)⟩, ⟨by repeat (first | (with_reducible first | exact HB.out | apply below_alloc | apply pw_below_drewN | apply below_drew1 | refine below_set ?_ (IsS53.ge HI0.out)) | exact HB.out)⟩⟩
                  · rw [if_neg c17] at H
                    exact absurd H (by simp)
                · rw [if_neg c16] at H
                  exact absurd H (by simp)
              · rw [if_neg c15] at H
                have c15b0 : (x3_1 == 0) = false := beq_eq_false_iff_ne.mpr c15
                have c15b1 : (x3_1 != 0) = true := bne_iff_ne.mpr c15
                by_cases c20 : 0 ≤ x1001_1
                · rw [if_pos c20] at H
                  have c20b0 : decide (0 ≤ x1001_1) = true := decide_eq_true c20
                  clear c20
                  by_cases c21 : x1001_1 < (s0_0.size : Int)
                  · rw [if_pos c21] at H
                    have c21b0 : decide (x1001_1 < (s0_0.size : Int)) = true := decide_eq_true c21
                    clear c21
                    have H' := Aside0.mk H
                    clear H
                    obtain ⟨ASz23_3, cSz23_3, ASz23_5, cSz23_5, HGz23, hgz23, HSz23_3, HSz23_5⟩ := HI0.out
                    have hcz23_0 := cellS53_0 HGz23
                    have hcz23_1 := cellS53_1 HGz23
                    have hcz23_2 := cellS53_2 HGz23
                    have hcz23_3 := cellS53_3 HGz23
                    have hcz23_4 := cellS53_4 HGz23
                    have hcz23_5 := cellS53_5 HGz23
                    have hfz23_0 := blk_frozen HGz23 0
                    have hfz23_1 := blk_frozen HGz23 1
                    have hfz23_2 := blk_frozen HGz23 2
                    have hfz23_4 := blk_frozen HGz23 4
                    clear HGz23 hgz23
                    have p22 : 0 ≤ (x1001_1 : Int) := of_decide_eq_true (by first | (with_reducible assumption) | assumption)
                    have q22 : x1001_1 < (s0_0.size : Int) := of_decide_eq_true (by first | (with_reducible assumption) | assumption)
                    have hx22 := bt_at s0_0 x1001_1
                    replace p22 := eq_true p22
                    replace q22 := eq_true q22
                    go_wp2
                    repeat (go_quiet (fail); try go_wp2)
                    go_roundg kj1
                    case measure => have := HK1.out; have := HJ1.out; omega
                    case rel => exact ⟨(wrap64 ((wrap64 (10 * x3_1)) + (((bt s0_0 x1001_1) - 48) % 256))), (wrap64 (x4_1 + 1)), (wrap64 (x1001_1 + 1)), (x1002_1), (by first | rfl | (simp; done) | (simp [*]; done)), (by first | rfl | (simp; done) | (simp [*]; done)), H', ⟨by have := HK1.out; have := HJ1.out; omega⟩, ⟨by repeat (first | (with_reducible first | exact HI0.out | apply IsS53.alloc | apply IsS53.drewN | apply IsS53.drew | apply IsS53.set_0 | apply IsS53.set_1 | apply IsS53.set_2 | apply IsS53.set_4) | exact HI0.out)⟩, ⟨by repeat (first | (with_reducible first | exact HK.out | apply KeepBut.set_ | apply keep_drewN | apply keep_drew | apply keep_alloc) | exact HK.out)⟩, ⟨by repeat (first | (with_reducible first | exact HB.out | apply below_alloc | apply pw_below_drewN | apply below_drew1 | refine below_set ?_ (IsS53.ge HI0.out)) | exact HB.out)⟩⟩
                  · rw [if_neg c21] at H
                    exact absurd H (by simp)
                · rw [if_neg c20] at H
                  exact absurd H (by simp)
            · rw [if_neg c14] at H
              have c14b0 : decide (0 < x4_1) = false := decide_eq_false c14
              clear c14
              by_cases c24 : 0 ≤ x1001_1
              · rw [if_pos c24] at H
                have c24b0 : decide (0 ≤ x1001_1) = true := decide_eq_true c24
                clear c24
                by_cases c25 : x1001_1 < (s0_0.size : Int)
                · rw [if_pos c25] at H
                  have c25b0 : decide (x1001_1 < (s0_0.size : Int)) = true := decide_eq_true c25
                  clear c25
                  have H' := Aside0.mk H
                  clear H
                  obtain ⟨ASz27_3, cSz27_3, ASz27_5, cSz27_5, HGz27, hgz27, HSz27_3, HSz27_5⟩ := HI0.out
                  have hcz27_0 := cellS53_0 HGz27
                  have hcz27_1 := cellS53_1 HGz27
                  have hcz27_2 := cellS53_2 HGz27
                  have hcz27_3 := cellS53_3 HGz27
                  have hcz27_4 := cellS53_4 HGz27
                  have hcz27_5 := cellS53_5 HGz27
                  have hfz27_0 := blk_frozen HGz27 0
                  have hfz27_1 := blk_frozen HGz27 1
                  have hfz27_2 := blk_frozen HGz27 2
                  have hfz27_4 := blk_frozen HGz27 4
                  clear HGz27 hgz27
                  have p26 : 0 ≤ (x1001_1 : Int) := of_decide_eq_true (by first | (with_reducible assumption) | assumption)
                  have q26 : x1001_1 < (s0_0.size : Int) := of_decide_eq_true (by first | (with_reducible assumption) | assumption)
                  have hx26 := bt_at s0_0 x1001_1
                  replace p26 := eq_true p26
                  replace q26 := eq_true q26
                  go_wp2
                  repeat (go_quiet (fail); try go_wp2)
                  go_roundg kj1
                  case measure => have := HK1.out; have := HJ1.out; omega
                  case rel => exact ⟨(wrap64 ((wrap64 (10 * x3_1)) + (((bt s0_0 x1001_1) - 48) % 256))), (wrap64 (x4_1 + 1)), (wrap64 (x1001_1 + 1)), (x1002_1), (by first | rfl | (simp; done) | (simp [*]; done)), (by first | rfl | (simp; done) | (simp [*]; done)), H', ⟨by have := HK1.out; have := HJ1.out; omega⟩, ⟨by repeat (first | (with_reducible first | exact HI0.out | apply IsS53.alloc | apply IsS53.drewN | apply IsS53.drew | apply IsS53.set_0 | apply IsS53.set_1 | apply IsS53.set_2 | apply IsS53.set_4) | exact HI0.out)⟩, ⟨by repeat (first | (with_reducible first | exact HK.out | apply KeepBut.set_ | apply keep_drewN | apply keep_drew | apply keep_alloc) | exact HK.out)⟩, ⟨by repeat (first | (with_reducible first | exact HB.out | apply below_alloc | apply pw_below_drewN | apply below_drew1 | refine below_set ?_ (IsS53.ge HI0.out)) | exact HB.out)⟩⟩
                · rw [if_neg c25] at H
                  exact absurd H (by simp)
              · rw [if_neg c24] at H
                exact absurd H (by simp)
          · replace c13 := Bool.eq_false_iff.mpr c13
            subst c13
            have H1 : (if x1002_1 = true then (some (x3_1, s0_0, x1001_1, true, s0_4)) else (some (x3_1, s0_0, x1001_1, (x4_1 == 0), s0_4))) = some (r1, r2, r3, r4, r5) := by rw [if_neg (show ¬ (false = true) by decide)] at H; exact H
            clear H
            have H := H1
            clear H1
            by_cases c28 : x1002_1 = true
            · subst c28
              have H1 : (some (x3_1, s0_0, x1001_1, true, s0_4)) = some (r1, r2, r3, r4, r5) := by rw [if_pos rfl] at H; exact H
              clear H
              have H := H1
              clear H1
              simp only [Option.some.injEq, Prod.mk.injEq] at H
              obtain ⟨rfl, rfl, rfl, rfl, rfl⟩ := H
              obtain ⟨ASz29_3, cSz29_3, ASz29_5, cSz29_5, HGz29, hgz29, HSz29_3, HSz29_5⟩ := HI0.out
              have hcz29_0 := cellS53_0 HGz29
              have hcz29_1 := cellS53_1 HGz29
              have hcz29_2 := cellS53_2 HGz29
              have hcz29_3 := cellS53_3 HGz29
              have hcz29_4 := cellS53_4 HGz29
              have hcz29_5 := cellS53_5 HGz29
              have hfz29_0 := blk_frozen HGz29 0
              have hfz29_1 := blk_frozen HGz29 1
              have hfz29_2 := blk_frozen HGz29 2
              have hfz29_4 := blk_frozen HGz29 4
              clear HGz29 hgz29
              go_wp2
              repeat (go_quiet (fail); try go_wp2)
              go_ret
              exact ⟨by first | rfl | (simp [errW_none, errW_some] <;> rfl) | (simp [*, errW_none, errW_some] <;> rfl), by repeat (first | (with_reducible first | exact HI0.out | apply IsS53.alloc | apply IsS53.drewN | apply IsS53.drew | apply IsS53.set_0 | apply IsS53.set_1 | apply IsS53.set_2 | apply IsS53.set_4) | exact HI0.out), by repeat (first | (with_reducible first | exact HB.out | apply below_alloc | apply pw_below_drewN | apply below_drew1 | refine below_set ?_ (IsS53.ge HI0.out)) | exact HB.out), by repeat (first | (with_reducible first | exact HK.out | apply KeepBut.set_ | apply keep_drewN | apply keep_drew | apply keep_alloc) | exact HK.out)⟩
            · replace c28 := Bool.eq_false_iff.mpr c28
              subst c28
              have H1 : (some (x3_1, s0_0, x1001_1, (x4_1 == 0), s0_4)) = some (r1, r2, r3, r4, r5) := by rw [if_neg (show ¬ (false = true) by decide)] at H; exact H
              clear H
              have H := H1
              clear H1
              simp only [Option.some.injEq, Prod.mk.injEq] at H
              obtain ⟨rfl, rfl, rfl, rfl, rfl⟩ := H
              obtain ⟨ASz30_3, cSz30_3, ASz30_5, cSz30_5, HGz30, hgz30, HSz30_3, HSz30_5⟩ := HI0.out
              have hcz30_0 := cellS53_0 HGz30
              have hcz30_1 := cellS53_1 HGz30
              have hcz30_2 := cellS53_2 HGz30
              have hcz30_3 := cellS53_3 HGz30
              have hcz30_4 := cellS53_4 HGz30
              have hcz30_5 := cellS53_5 HGz30
              have hfz30_0 := blk_frozen HGz30 0
              have hfz30_1 := blk_frozen HGz30 1
              have hfz30_2 := blk_frozen HGz30 2
              have hfz30_4 := blk_frozen HGz30 4
              clear HGz30 hgz30
              go_wp2
              repeat (go_quiet (fail); try go_wp2)
              go_ret
              exact ⟨by first | rfl | (simp [errW_none, errW_some] <;> rfl) | (simp [*, errW_none, errW_some] <;> rfl), by repeat (first | (with_reducible first | exact HI0.out | apply IsS53.alloc | apply IsS53.drewN | apply IsS53.drew | apply IsS53.set_0 | apply IsS53.set_1 | apply IsS53.set_2 | apply IsS53.set_4) | exact HI0.out), by repeat (first | (with_reducible first | exact HB.out | apply below_alloc | apply pw_below_drewN | apply below_drew1 | refine below_set ?_ (IsS53.ge HI0.out)) | exact HB.out), by repeat (first | (with_reducible first | exact HK.out | apply KeepBut.set_ | apply keep_drewN | apply keep_drew | apply keep_alloc) | exact HK.out)⟩

end Go.Proofs.YtonajgipkpnpoaaDoor.Rd
