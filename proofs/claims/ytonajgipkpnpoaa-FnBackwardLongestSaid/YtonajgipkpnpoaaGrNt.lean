/- newtriang: rows of labels, none there yet. -/
import Derived.Test.YtonajgipkpnpoaaGrBw
namespace Go.Proofs.Ytonajgipkpnpoaa.Gr
open Go.RowKit Go.Proofs.YtonajgipkpnpoaaW.PrintWords Go.Myers

def NtPost (W : World) (B : Nat) (e : Ending) (w' : World) : Prop :=
  ∃ v F, e = .returned (.agg #[v]) ∧ Below W.heap.size W w' ∧ (∀ L, Tri w' B F v 0 L) ∧ (∀ k, F k → W.heap.size ≤ k)

theorem new_obj (w : World) (o : Obj) : (w.alloc o).heap[w.heap.size]? = some o := by
  rw [show (w.alloc o).heap = w.heap.push o from rfl]; simp

theorem tri_none {w : World} {B : Nat} (L : Nat → Nat → Int) : Tri w B (fun _ => False) (.slice none 0 0) 0 L :=
  ⟨0, [], fun _ => 0, ⟨⟨rfl, Or.inl ⟨rfl, rfl⟩⟩, fun k h => by simp [Value.ownBlock] at h, Nat.le_refl _, fun D _ h => by omega, fun D h => by omega, fun D D' h => by omega, fun k h => h.elim⟩⟩

theorem tri_made {w : World} {B lim : Nat} (hB : B ≤ w.heap.size) (hl : lim ≤ 100000) (L : Nat → Nat → Int) :
    Tri (w.alloc (.cells (madeCells #[.slice none 0 0] lim) 36)) B (fun k => k = w.heap.size) (.slice (some ⟨w.heap.size, 0, none⟩) lim lim) 0 L := by
  have hh : (w.alloc (.cells (madeCells #[.slice none 0 0] lim) 36)).heap[w.heap.size]? = some (.cells (madeCells #[.slice none 0 0] lim) 36 (0, 0)) := by
    rw [show (w.alloc (.cells (madeCells #[.slice none 0 0] lim) 36)).heap = w.heap.push (.cells (madeCells #[.slice none 0 0] lim) 36) from rfl]; simp
  refine ⟨lim, List.replicate lim (.slice none 0 0), fun _ => 0, ⟨⟨by simp, Or.inr ⟨w.heap.size, lim, _, rfl, hB, hh, Nat.le_refl _, by unfold maxLen; omega, by simp [size_madeCells], ?_⟩⟩, fun k h => ?_, Nat.zero_le _, fun D _ h => ?_, fun D h => by omega, fun D D' h => by omega, fun k h => ?_⟩⟩
  · rw [toList_madeCells_one, Nat.mul_one, List.take_of_length_le (by simp)]
  · simp [Value.ownBlock] at h; exact h.symm
  · rw [List.getElem?_replicate, if_pos h]
  · subst h; exact ⟨hB, by simp⟩

set_option maxRecDepth 100000 in
theorem newtriang_any (W : World) (B : Nat) (hB : B ≤ W.heap.size) (lim : Nat) (hl : lim ≤ 100000) :
    Calls Try.prog 39 #[.int .i64 lim] W fun e w' => NtPost W B e w' := by
  have hmk : ∀ W' : World, (Instr.makeSlice 81 (.int .i64 (lim : Int)) (.int .i64 (lim : Int))).run Try.prog W' = .ok (.slice (some ⟨W'.heap.size, 0, none⟩) lim lim) (W'.alloc (.cells (madeCells #[.slice none 0 0] lim) 36)) := print_make_of (P := Try.prog) 81 36 (.slice none 0 0) 24 rfl info36 rfl (by decide) lim (by omega)
  by_cases h : lim < 100
  · go_enter Try.func39, Try.ntmps39
    go_wp2
    have hs : (W.alloc (.cells #[.slice (some ⟨W.heap.size + 1, 0, none⟩) lim lim] 83)).heap.size = W.heap.size + 1 := by simp
    have ht := fun L => tri_made (w := W.alloc (.cells #[.slice (some ⟨W.heap.size + 1, 0, none⟩) lim lim] 83)) (B := B) (lim := lim) (by omega) hl L
    rw [hs] at ht
    refine bodyPost_ret (results_cell_row rfl _ _ W.heap.size 83 #[.slice (some ⟨W.heap.size + 1, 0, none⟩) lim lim] (0, 0) _ rfl ((Below.heap_alloc _ _ _ (by omega)).trans (new_obj W _)) Try.underlying83 rfl (by kernel_rfl)) rfl ?_
    exact ⟨_, _, rfl, below_alloc (below_alloc (Below.refl _ _) _) _, ht, fun k hk => by omega⟩
  · go_enter Try.func39, Try.ntmps39
    go_wp2
    refine bodyPost_ret (results_cell_row rfl _ _ W.heap.size 83 #[.slice none 0 0] (0, 0) _ rfl (new_obj W _) Try.underlying83 rfl (by kernel_rfl)) rfl ?_
    exact ⟨_, _, rfl, below_alloc (Below.refl _ _) _, fun L => tri_none L, fun k hk => hk.elim⟩
end Go.Proofs.Ytonajgipkpnpoaa.Gr
