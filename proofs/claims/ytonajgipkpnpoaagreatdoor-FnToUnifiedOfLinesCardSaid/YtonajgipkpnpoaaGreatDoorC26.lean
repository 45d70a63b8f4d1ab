/- toDiffs: what lies between common pieces. newtriang: rows of labels, none there yet. compute, with the road from both ends; diff; DiffLines. xdiff.Lines: the differences of two texts by lines, as edits. -/
import Derived.Test.YtonajgipkpnpoaaGreatDoorC25
import Derived.Test.YtonajgipkpnpoaaGreatDoorC02
import Derived.Test.YtonajgipkpnpoaaGreatDoorC19
import Derived.Test.YtonajgipkpnpoaaGreatDoorC20
import Derived.Test.YtonajgipkpnpoaaGreatDoorC14
import Derived.Test.YtonajgipkpnpoaaGreatDoorC13
import Derived.Deep.RegionHeld3
namespace Go.Proofs.YtonajgipkpnpoaaGreatDoor.Gr
open Go.RowKit Go.Proofs.YtonajgipkpnpoaaGreatDoorW.PrintWords Go.Myers
open Go.Uni (Df difL)
set_option linter.unusedVariables false
def cellsF (d : Df) : List Value := [.int .i64 d.s, .int .i64 d.e, .int .i64 d.rs, .int .i64 d.re]
def rowF (l : List Df) : List Value := l.flatMap cellsF
theorem rowF_append (a b : List Df) : rowF (a ++ b) = rowF a ++ rowF b := by simp [rowF]
theorem rowF_get : ∀ (l : List Df) (i : Nat) (d : Df), l[i]? = some d → ∀ j u, (cellsF d)[j]? = some u → (rowF l)[i * 4 + j]? = some u
  | [], i, d, h, j, u, hu => by simp at h
  | a :: t, 0, d, h, j, u, hu => by
    simp at h; subst h
    have hj : j < 4 := by have := (List.getElem?_eq_some_iff.1 hu).1; simpa [cellsF] using this
    rw [show rowF (a :: t) = cellsF a ++ rowF t by simp [rowF], Nat.zero_mul, Nat.zero_add, List.getElem?_append_left (by simpa [cellsF] using hj)]
    exact hu
  | a :: t, i + 1, d, h, j, u, hu => by
    have := rowF_get t i d (by simpa using h) j u hu
    rw [show rowF (a :: t) = cellsF a ++ rowF t by simp [rowF], List.getElem?_append_right (by simp [cellsF]; omega), show (i + 1) * 4 + j - (cellsF a).length = i * 4 + j by simp [cellsF]; omega]
    exact this
def DfRow (W : World) (B : Nat) (v : Value) (l : List Df) : Prop := W.ownsRow B 74 4 v l.length (rowF l)
theorem info_df : (Tryz.prog.info? 74).map (fun i => (i.zero, i.size, i.bytes)) = some (some (.agg #[.int .i64 0, .int .i64 0, .int .i64 0, .int .i64 0]), 4, 32) := by kernel_rfl
structure TqS (W w : World) (v : Value) (t : List Df) : Prop where
  bel : Below W.heap.size W w
  row : DfRow w W.heap.size v t
theorem TqS.push {W w w' : World} {v v' : Value} {t : List Df} {d : Df} {o : Obj} (h : TqS W w v t) (hg : (w.alloc o).grownBy w' v.ownBlock) (hr : w'.ownsRow W.heap.size 74 4 v' (t.length + 1) (rowF t ++ cellsF d)) : TqS W w' v' (t ++ [d]) :=
  ⟨(below_alloc h.bel o).grown hg (by have := h.bel.size; simp; omega) (fun k hk => own_base h.row k hk), by
    unfold DfRow
    rw [show (t ++ [d]).length = t.length + 1 by simp, rowF_append, show rowF [d] = cellsF d by simp [rowF]]
    exact hr⟩
theorem TqS.below {W w w' : World} {v : Value} {t : List Df} (h : TqS W w v t) (hb : Below w.heap.size w w') : TqS W w' v t :=
  ⟨h.bel.trans (hb.mono h.bel.size), own_move h.row (fun k hk => hb.block k (own_lt h.row k hk))⟩
theorem drop_cons {α : Type} {l : List α} {i : Nat} (hi : i < l.length) : l.drop i = l[i] :: l.drop (i + 1) := List.drop_eq_getElem_cons hi
theorem difL_nil (N M pa pb : Int) : difL N M [] pa pb = if pa < N ∨ pb < M then [⟨pa, N, pb, M⟩] else [] := rfl
theorem difL_cons (N M pa pb : Int) (d : Dg) (t : List Dg) : difL N M (d :: t) pa pb = (if pa < d.x ∨ pb < d.y then [⟨pa, d.x, pb, d.y⟩] else []) ++ difL N M t (d.x + d.len) (d.y + d.len) := rfl
set_option maxRecDepth 100000 in
set_option maxHeartbeats 4000000 in
theorem to_diffs (W : World) (B : Nat) (v : Value) (l : List Dg) (h : DgRow W B v l) {E : Nat → Nat → Bool} {N M : Nat} (hN : N ≤ 1000000) (hM : M ≤ 1000000) (hc : Chain E N M l 0 0) :
    Calls Tryz.prog 75 #[v, .int .i64 N, .int .i64 M] W fun e w' => ∃ v', e = .returned v' ∧ TqS W w' v' (difL N M l 0 0) := by
  have hll := chain_len hc (Int.le_refl _) (by omega) (by omega)
  obtain ⟨A, cap, rfl⟩ := own_slice h
  obtain ⟨i0, hi, hz0, hz1, hz2⟩ := info_parts info_df
  have hnew : ∀ (W1 : World) (a b x y : Int), ∀ j u, [Value.int .i64 a, .int .i64 b, .int .i64 x, .int .i64 y][j]? = some u → (W1.alloc (.cells #[.int .i64 a, .int .i64 b, .int .i64 x, .int .i64 y] 74)).cell? ((⟨W1.heap.size, 0, none⟩ : Addr).add j) = some u := fun W1 a b x y j u hu => by
    rw [add_plain, blk_cell (new_obj W1 _)]
    simpa using hu
  have HN := Aside0.mk hnew
  have H := Aside0.mk h
  have HC := Aside0.mk hc
  clear hnew h hc
  go_enter Tryz.func75, Tryz.ntmps75
  go_wp2_with fail
  go_loopw [7, 8, 9, 14] (fun v7 v8 v9 v14 wr => ∃ (i : Nat) (acc : List Df) (pa pb : Int), v8 = .int .i64 pa ∧ v9 = .int .i64 pb ∧ v14 = .int .i64 i ∧ i ≤ l.length ∧ 0 ≤ pa ∧ 0 ≤ pb ∧ pa ≤ N ∧ pb ≤ M ∧ acc.length ≤ i ∧ Aside0 (Chain E N M (l.drop i) pa pb) ∧ Hid (difL N M l 0 0 = acc ++ difL N M (l.drop i) pa pb) ∧ Aside0 (TqS W wr v7 acc)) (fun _ _ _ v14 _ => l.length - (intOf v14).toNat)
  case atStart => exact ⟨0, [], 0, 0, rfl, rfl, rfl, Nat.zero_le _, by omega, by omega, by omega, by omega, Nat.le_refl _, HC, Lib.hid rfl, ⟨Below.refl _ _, ⟨rfl, Or.inl ⟨rfl, rfl⟩⟩⟩⟩
  case round =>
    obtain ⟨i, acc, pa, pb, rfl, rfl, rfl, hi1, h1, h2, h3, h4, h5, HCH, HD, HS⟩ := hrel
    obtain ⟨A7, c7, rfl⟩ := own_slice HS.out.row
    by_cases hlt : i < l.length
    · obtain ⟨d, hd⟩ : ∃ d, l[i]? = some d := ⟨_, List.getElem?_eq_getElem hlt⟩
      have hA : ∃ g, A = some ⟨g, 0, none⟩ := by
        obtain ⟨g, c', hv, _⟩ := row_slice H.out (by intro e; rw [e] at hlt; simp at hlt)
        injection hv with hv
        exact ⟨g, hv⟩
      obtain ⟨g, rfl⟩ := hA
      obtain ⟨k0, k1, k2⟩ := row_cells (H.out.below HS.out.bel) hd
      have hch := HCH.out
      have hdd := HD.out
      have edr : l.drop i = d :: l.drop (i + 1) := by
        rw [drop_cons hlt]
        rw [List.getElem?_eq_getElem hlt] at hd
        injection hd with hd
        rw [hd]
      rw [edr] at hch hdd
      obtain ⟨q1, q2, q3, q4, q5, _, q6⟩ := hch
      rw [difL_cons] at hdd
      have Q6 := Aside0.mk q6
      clear q6 edr hd HD HCH
      by_cases p1 : pa < d.x
      · rw [if_pos (Or.inl p1)] at hdd
        have HDD := Lib.hid hdd
        clear hdd
        go_wp2_with (at_builtin; go_loud (refine wpList_append_own _ rfl (.tmp 28) (.tmp 36) 71 rfl W.heap.size 74 i0 _ 4 32 Tryz.underlying71 hi hz0 hz1 hz2 rfl (by decide) _ _ _ rfl (own_move (HS.out.below (below_alloc (Below.refl _ _) (.cells #[.int .i64 d.x, .int .i64 d.y, .int .i64 d.len] 162))).row (fun k hk => Below.heap_alloc _ _ k (own_lt (HS.out.below (below_alloc (Below.refl _ _) (.cells #[.int .i64 d.x, .int .i64 d.y, .int .i64 d.len] 162))).row k hk))) ⟨wr.heap.size + 1, 0, none⟩ 1 1 [.int .i64 pa, .int .i64 d.x, .int .i64 pb, .int .i64 d.y] rfl rfl ?h1 ?h2 ?h3 ?h4 ?h5 ?_; (case h1 => have hh := HN.out (wr.alloc (.cells #[.int .i64 d.x, .int .i64 d.y, .int .i64 d.len] 162)) pa d.x pb d.y; (try simp only [World.size_alloc] at hh); exact hh); (case h2 => intro u hu; simp at hu; rcases hu with rfl | rfl | rfl | rfl <;> rfl); (case h3 => unfold maxLen; omega); (case h4 => omega); (case h5 => have := HS.out.bel.size; simp; omega); intro v1 w1 hown hgr _; have HP := Aside0.mk (TqS.push (d := ⟨pa, d.x, pb, d.y⟩) (HS.out.below (below_alloc (Below.refl _ _) (.cells #[.int .i64 d.x, .int .i64 d.y, .int .i64 d.len] 162))) hgr hown); have hbk : w1.heap[wr.heap.size]? = some (.cells (cellsA d) 162 (0, 0)) := (hgr.block _ (by simp; omega) (fun e => by have := own_lt HS.out.row _ e.symm; omega)).trans ((Below.heap_alloc _ _ _ (by simp)).trans (new_obj wr _)); have n0 : w1.cell? ⟨wr.heap.size, 0, none⟩ = some (.int .i64 d.x) := (blk_cell hbk 0).trans rfl; have n1 : w1.cell? ⟨wr.heap.size, 1, none⟩ = some (.int .i64 d.y) := (blk_cell hbk 1).trans rfl; have n2 : w1.cell? ⟨wr.heap.size, 2, none⟩ = some (.int .i64 d.len) := (blk_cell hbk 2).trans rfl; clear hbk; clear hown hgr))
        go_roundw
        case rel => exact ⟨i + 1, acc ++ [⟨pa, d.x, pb, d.y⟩], d.x + d.len, d.y + d.len, by go_num, by go_num, by go_num, by omega, by omega, by omega, by omega, by omega, by simp; omega, Q6, Lib.hid (by rw [HDD.out, List.append_assoc]), HP⟩
        case measure => simp [intOf]; omega
      · by_cases p2 : pb < d.y
        · rw [if_pos (Or.inr p2)] at hdd
          have HDD := Lib.hid hdd
          clear hdd
          go_wp2_with (at_builtin; go_loud (refine wpList_append_own _ rfl (.tmp 28) (.tmp 36) 71 rfl W.heap.size 74 i0 _ 4 32 Tryz.underlying71 hi hz0 hz1 hz2 rfl (by decide) _ _ _ rfl (own_move (HS.out.below (below_alloc (Below.refl _ _) (.cells #[.int .i64 d.x, .int .i64 d.y, .int .i64 d.len] 162))).row (fun k hk => Below.heap_alloc _ _ k (own_lt (HS.out.below (below_alloc (Below.refl _ _) (.cells #[.int .i64 d.x, .int .i64 d.y, .int .i64 d.len] 162))).row k hk))) ⟨wr.heap.size + 1, 0, none⟩ 1 1 [.int .i64 pa, .int .i64 d.x, .int .i64 pb, .int .i64 d.y] rfl rfl ?h1 ?h2 ?h3 ?h4 ?h5 ?_; (case h1 => have hh := HN.out (wr.alloc (.cells #[.int .i64 d.x, .int .i64 d.y, .int .i64 d.len] 162)) pa d.x pb d.y; (try simp only [World.size_alloc] at hh); exact hh); (case h2 => intro u hu; simp at hu; rcases hu with rfl | rfl | rfl | rfl <;> rfl); (case h3 => unfold maxLen; omega); (case h4 => omega); (case h5 => have := HS.out.bel.size; simp; omega); intro v1 w1 hown hgr _; have HP := Aside0.mk (TqS.push (d := ⟨pa, d.x, pb, d.y⟩) (HS.out.below (below_alloc (Below.refl _ _) (.cells #[.int .i64 d.x, .int .i64 d.y, .int .i64 d.len] 162))) hgr hown); have hbk : w1.heap[wr.heap.size]? = some (.cells (cellsA d) 162 (0, 0)) := (hgr.block _ (by simp; omega) (fun e => by have := own_lt HS.out.row _ e.symm; omega)).trans ((Below.heap_alloc _ _ _ (by simp)).trans (new_obj wr _)); have n0 : w1.cell? ⟨wr.heap.size, 0, none⟩ = some (.int .i64 d.x) := (blk_cell hbk 0).trans rfl; have n1 : w1.cell? ⟨wr.heap.size, 1, none⟩ = some (.int .i64 d.y) := (blk_cell hbk 1).trans rfl; have n2 : w1.cell? ⟨wr.heap.size, 2, none⟩ = some (.int .i64 d.len) := (blk_cell hbk 2).trans rfl; clear hbk; clear hown hgr))
          go_roundw
          case rel => exact ⟨i + 1, acc ++ [⟨pa, d.x, pb, d.y⟩], d.x + d.len, d.y + d.len, by go_num, by go_num, by go_num, by omega, by omega, by omega, by omega, by omega, by simp; omega, Q6, Lib.hid (by rw [HDD.out, List.append_assoc]), HP⟩
          case measure => simp [intOf]; omega
        · rw [if_neg (fun h => h.elim p1 p2), List.nil_append] at hdd
          have HDD := Lib.hid hdd
          clear hdd
          go_wp2_with fail
          go_roundw
          case rel => exact ⟨i + 1, acc, d.x + d.len, d.y + d.len, by go_num, by go_num, by go_num, by omega, by omega, by omega, by omega, by omega, by omega, Q6, HDD, ⟨HS.out.below (below_alloc (Below.refl _ _) _)⟩⟩
          case measure => simp [intOf]; omega
    · obtain rfl : i = l.length := by omega
      have hdd := HD.out
      rw [List.drop_length, difL_nil] at hdd
      clear HD HCH
      by_cases p1 : pa < N
      · rw [if_pos (Or.inl p1)] at hdd
        have HDD := Lib.hid hdd
        clear hdd
        go_wp2_with (at_builtin; go_loud (refine wpList_append_own _ rfl (.tmp 57) (.tmp 63) 71 rfl W.heap.size 74 i0 _ 4 32 Tryz.underlying71 hi hz0 hz1 hz2 rfl (by decide) _ _ _ rfl (own_move HS.out.row (fun k hk => Below.heap_alloc _ _ k (own_lt HS.out.row k hk))) ⟨wr.heap.size, 0, none⟩ 1 1 [.int .i64 pa, .int .i64 N, .int .i64 pb, .int .i64 M] rfl rfl ?h1 ?h2 ?h3 ?h4 ?h5 ?_; (case h1 => have hh := HN.out (wr) pa N pb M; (try simp only [World.size_alloc] at hh); exact hh); (case h2 => intro u hu; simp at hu; rcases hu with rfl | rfl | rfl | rfl <;> rfl); (case h3 => unfold maxLen; omega); (case h4 => omega); (case h5 => have := HS.out.bel.size; simp; omega); intro v1 w1 hown hgr _; have HP := Aside0.mk (TqS.push (d := ⟨pa, N, pb, M⟩) HS.out hgr hown); clear hown hgr))
        go_ret
        exact ⟨_, rfl, by rw [HDD.out]; exact HP.out⟩
      · by_cases p2 : pb < M
        · rw [if_pos (Or.inr p2)] at hdd
          have HDD := Lib.hid hdd
          clear hdd
          go_wp2_with (at_builtin; go_loud (refine wpList_append_own _ rfl (.tmp 57) (.tmp 63) 71 rfl W.heap.size 74 i0 _ 4 32 Tryz.underlying71 hi hz0 hz1 hz2 rfl (by decide) _ _ _ rfl (own_move HS.out.row (fun k hk => Below.heap_alloc _ _ k (own_lt HS.out.row k hk))) ⟨wr.heap.size, 0, none⟩ 1 1 [.int .i64 pa, .int .i64 N, .int .i64 pb, .int .i64 M] rfl rfl ?h1 ?h2 ?h3 ?h4 ?h5 ?_; (case h1 => have hh := HN.out (wr) pa N pb M; (try simp only [World.size_alloc] at hh); exact hh); (case h2 => intro u hu; simp at hu; rcases hu with rfl | rfl | rfl | rfl <;> rfl); (case h3 => unfold maxLen; omega); (case h4 => omega); (case h5 => have := HS.out.bel.size; simp; omega); intro v1 w1 hown hgr _; have HP := Aside0.mk (TqS.push (d := ⟨pa, N, pb, M⟩) HS.out hgr hown); clear hown hgr))
          go_ret
          exact ⟨_, rfl, by rw [HDD.out]; exact HP.out⟩
        · rw [if_neg (fun h => h.elim p1 p2), List.append_nil] at hdd
          have HDD := Lib.hid hdd
          clear hdd
          go_wp2_with fail
          go_ret
          exact ⟨_, rfl, by rw [HDD.out]; exact HS.out⟩
end Go.Proofs.YtonajgipkpnpoaaGreatDoor.Gr
namespace Go.Proofs.YtonajgipkpnpoaaGreatDoor.Gr
open Go.RowKit Go.Proofs.YtonajgipkpnpoaaGreatDoorW.PrintWords Go.Myers
def NtPost (W : World) (B : Nat) (e : Ending) (w' : World) : Prop :=
  ∃ v F, e = .returned (.agg #[v]) ∧ Below W.heap.size W w' ∧ (∀ L, Tri w' B F v 0 L) ∧ (∀ k, F k → W.heap.size ≤ k)
theorem tri_none {w : World} {B : Nat} (L : Nat → Nat → Int) : Tri w B (fun _ => False) (.slice none 0 0) 0 L :=
  ⟨0, [], fun _ => 0, ⟨⟨rfl, Or.inl ⟨rfl, rfl⟩⟩, fun k h => by simp [Value.ownBlock] at h, Nat.le_refl _, fun D _ h => by omega, fun D h => by omega, fun D D' h => by omega, fun k h => h.elim⟩⟩
theorem tri_made {w : World} {B lim : Nat} (hB : B ≤ w.heap.size) (hl : lim ≤ 100000) (L : Nat → Nat → Int) :
    Tri (w.alloc (.cells (madeCells #[.slice none 0 0] lim) 40)) B (fun k => k = w.heap.size) (.slice (some ⟨w.heap.size, 0, none⟩) lim lim) 0 L := by
  have hh : (w.alloc (.cells (madeCells #[.slice none 0 0] lim) 40)).heap[w.heap.size]? = some (.cells (madeCells #[.slice none 0 0] lim) 40 (0, 0)) := by
    rw [show (w.alloc (.cells (madeCells #[.slice none 0 0] lim) 40)).heap = w.heap.push (.cells (madeCells #[.slice none 0 0] lim) 40) from rfl]; simp
  refine ⟨lim, List.replicate lim (.slice none 0 0), fun _ => 0, ⟨⟨by simp, Or.inr ⟨w.heap.size, lim, _, rfl, hB, hh, Nat.le_refl _, by unfold maxLen; omega, by simp [size_madeCells], ?_⟩⟩, fun k h => ?_, Nat.zero_le _, fun D _ h => ?_, fun D h => by omega, fun D D' h => by omega, fun k h => ?_⟩⟩
  · rw [toList_madeCells_one, Nat.mul_one, List.take_of_length_le (by simp)]
  · simp [Value.ownBlock] at h; exact h.symm
  · rw [List.getElem?_replicate, if_pos h]
  · subst h; exact ⟨hB, by simp⟩
set_option maxRecDepth 100000 in
theorem newtriang_any (W : World) (B : Nat) (hB : B ≤ W.heap.size) (lim : Nat) (hl : lim ≤ 100000) :
    Calls Tryz.prog 74 #[.int .i64 lim] W fun e w' => NtPost W B e w' := by
  have hmk : ∀ W' : World, (Instr.makeSlice 134 (.int .i64 (lim : Int)) (.int .i64 (lim : Int))).run Tryz.prog W' = .ok (.slice (some ⟨W'.heap.size, 0, none⟩) lim lim) (W'.alloc (.cells (madeCells #[.slice none 0 0] lim) 40)) := print_make_of (P := Tryz.prog) 134 40 (.slice none 0 0) 24 rfl info36 rfl (by decide) lim (by omega)
  by_cases h : lim < 100
  · go_enter Tryz.func74, Tryz.ntmps74
    go_wp2
    have hs : (W.alloc (.cells #[.slice (some ⟨W.heap.size + 1, 0, none⟩) lim lim] 136)).heap.size = W.heap.size + 1 := by simp
    have ht := fun L => tri_made (w := W.alloc (.cells #[.slice (some ⟨W.heap.size + 1, 0, none⟩) lim lim] 136)) (B := B) (lim := lim) (by omega) hl L
    rw [hs] at ht
    refine bodyPost_ret (results_cell_row rfl _ _ W.heap.size 136 #[.slice (some ⟨W.heap.size + 1, 0, none⟩) lim lim] (0, 0) _ rfl ((Below.heap_alloc _ _ _ (by omega)).trans (new_obj W _)) Tryz.underlying136 rfl (by kernel_rfl)) rfl ?_
    exact ⟨_, _, rfl, below_alloc (below_alloc (Below.refl _ _) _) _, ht, fun k hk => by omega⟩
  · go_enter Tryz.func74, Tryz.ntmps74
    go_wp2
    refine bodyPost_ret (results_cell_row rfl _ _ W.heap.size 136 #[.slice none 0 0] (0, 0) _ rfl (new_obj W _) Tryz.underlying136 rfl (by kernel_rfl)) rfl ?_
    exact ⟨_, _, rfl, below_alloc (Below.refl _ _) _, fun L => tri_none L, fun k hk => hk.elim⟩
end Go.Proofs.YtonajgipkpnpoaaGreatDoor.Gr
namespace Go.Proofs.YtonajgipkpnpoaaGreatDoor.Gr
open Go.RowKit Go.Proofs.YtonajgipkpnpoaaGreatDoorW.PrintWords Go.Myers
open Go.Uni (Df difL)
set_option linter.unusedVariables false
def CmPost (W : World) (E : Nat → Nat → Bool) (N M : Nat) (e : Ending) (w' : World) : Prop :=
  ∃ d v l, e = .returned (.tuple #[d, v]) ∧ Chain E N M l 0 0 ∧ DfRow w' W.heap.size d (difL N M l 0 0) ∧ Below W.heap.size W w'
def cx0 (W w3 : World) (w : World) (sq : Value) (lim N M : Nat) (F1 F2 : Nat → Prop) (E : Nat → Nat → Bool) : Cx :=
  ⟨w, W.heap.size, w3.heap.size, sq, lim, N, M, (fun k => F1 k ∨ F2 k ∨ k = w3.heap.size), E⟩
theorem gs_start {W w2 w3 w : World} {sq v1 v2 : Value} {lim N M : Nat} {F1 F2 : Nat → Prop} {E : Nat → Nat → Bool} (hs : SQ W (fun _ => False) sq E N M) (hN : N ≤ 1000000) (hM : M ≤ 1000000) (hl : lim ≤ 100000)
    (b3 : Below W.heap.size W w3) (b23 : Below w2.heap.size w2 w3)
    (t1 : ∀ L, Tri w2 W.heap.size F1 v1 0 L) (t2 : ∀ L, Tri w3 W.heap.size F2 v2 0 L) (f2 : ∀ k, F2 k → w2.heap.size ≤ k)
    (hw : w = w3.alloc (.cells (egC sq v1 v2 lim N M ((N : Int) - M)) 139)) :
    (cx0 W w3 w sq lim N M F1 F2 E).ok ∧ GS (cx0 W w3 w sq lim N M F1 F2 E) N M w 0 (fun _ => False) 0 (fun _ => False) ∧ Below W.heap.size W w := by
  have hb3w : Below w3.heap.size w3 w := by rw [hw]; exact below_alloc (Below.refl _ _) _
  have hbw : Below W.heap.size W w := b3.trans (hb3w.mono b3.size)
  have l1 : ∀ k, F1 k → W.heap.size ≤ k ∧ k < w2.heap.size := fun k hk => by obtain ⟨_, _, _, t⟩ := t1 (fun _ _ => 0); exact t.lo k hk
  have l2 : ∀ k, F2 k → W.heap.size ≤ k ∧ k < w3.heap.size := fun k hk => by obtain ⟨_, _, _, t⟩ := t2 (fun _ _ => 0); exact t.lo k hk
  have h23 := b23.size
  have h3 := b3.size
  have hlo : ∀ k, (F1 k ∨ F2 k ∨ k = w3.heap.size) → W.heap.size ≤ k := fun k hk => by
    rcases hk with hk | hk | hk
    · exact (l1 k hk).1
    · exact (l2 k hk).1
    · omega
  refine ⟨⟨hN, hM, hl, hlo, hbw.size⟩, ⟨(fun k => F1 k ∨ F2 k ∨ k = w3.heap.size), 0, (fun _ _ => 0), 0, (fun _ _ => 0), Step.refl _ _, ⟨v1, v2, F1, F2, ?_, (t1 _).below b23 |>.below hb3w, (t2 _).below hb3w, fun k h1 h2 => ?_, fun h => ?_, fun h => ?_, fun k => Iff.rfl, ?_⟩, ?_, ⟨fun d k h => by omega, fun k h => h.elim, Nat.zero_le _, fun k h => h.elim⟩, ⟨fun d k h => by omega, fun k h => h.elim, Nat.zero_le _, fun k h => h.elim⟩⟩, hbw⟩
  · rw [hw]; exact new_obj _ _
  · have := (l1 k h1).2; have := f2 k h2; omega
  · have := (l1 _ h).2; simp only [cx0] at this; omega
  · have := (l2 _ h).2; simp only [cx0] at this; omega
  · simp only [cx0]; omega
  · exact hs.step ⟨hbw.os, hbw.tape, hbw.output, hbw.size, fun k hk _ => hbw.block k hk, fun k hk => Or.inr (hlo k hk)⟩
set_option maxRecDepth 100000 in
set_option maxHeartbeats 1000000 in
theorem compute_two (W : World) (sq : Value) (E : Nat → Nat → Bool) (N M : Nat) (hs : SQ W (fun _ => False) sq E N M) (hN : N ≤ 1000000) (hM : M ≤ 1000000) (lim : Nat) (hl0 : 0 < lim) (hl : lim ≤ 99999) :
    Calls Tryz.prog 61 #[sq, .func (.func 62) #[] #[], .int .i64 lim] W fun e w' => CmPost W E N M e w' := by
  have HS := Aside0.mk hs
  obtain ⟨ty, v, fl, fp, fs, rfl, hs⟩ := hs
  have hm := hs.ml
  have hcf := hs.cl
  have hlen := hs.len W
  clear hs
  go_enter Tryz.func61, Tryz.ntmps61
  go_wp2_with (first
    | (go_at_call 74; first
      | (refine (newtriang_any _ W.heap.size HB2.out.size lim (by omega)).mono ?_; rintro e w3 ⟨v2, F2, rfl, hb3, ht2, hf2⟩; have HB3 := Aside0.mk (HB2.out.trans (hb3.mono HB2.out.size)); have HB3' := Aside0.mk hb3; have HT2 := Aside0.mk ht2; have HF2 := Aside0.mk hf2; clear hb3 ht2 hf2)
      | (refine (newtriang_any _ W.heap.size HB1.out.size lim (by omega)).mono ?_; rintro e w2 ⟨v1, F1, rfl, hb2, ht1, hf1⟩; have HB2 := Aside0.mk (HB1.out.trans (hb2.mono HB1.out.size)); have HT1 := Aside0.mk ht1; clear hb2 ht1 hf1))
    | (go_at_call 62; go_loud (obtain ⟨hok, hgs, hbe⟩ := gs_start (lim := lim) HS.out hN hM (by omega) HB3.out HB3'.out HT1.out HT2.out HF2.out rfl; have HBE := Aside0.mk hbe; have hlo := hok.lo; refine (two_sided _ hok hl hgs).mono ?_; clear hok hgs hbe; rintro e w5 ⟨v5, l, rfl, F5, hst, hr5, hc5⟩; have hb5 := hst.below hlo HBE.out.size; have HB5 := Aside0.mk (HBE.out.trans hb5); have HR5 := Aside0.mk hr5; have HC5 := Aside0.mk hc5; clear hst hr5 hc5 hb5 hlo))
    | (go_at_call 75; go_loud (refine (to_diffs w5 _ _ l HR5.out hN hM HC5.out).mono ?_; rintro e w6 ⟨d, rfl, hd⟩; have HD := Aside0.mk hd; clear hd))
    | (refine hlen.mono ?_; rintro e w1 ⟨rfl, hb1⟩; have HB1 := Aside0.mk hb1; clear hb1))
  go_ret2
  exact ⟨d, _, l, rfl, HC5.out, own_base_mono HD.out.row HB5.out.size, HB5.out.trans (HD.out.bel.mono HB5.out.size)⟩
def DfPost (W : World) (E : Nat → Nat → Bool) (N M : Nat) (e : Ending) (w' : World) : Prop :=
  ∃ d l, e = .returned d ∧ Chain E N M l 0 0 ∧ DfRow w' W.heap.size d (difL N M l 0 0) ∧ Below W.heap.size W w'
set_option maxRecDepth 100000 in
theorem diff_any (W : World) (sq : Value) (E : Nat → Nat → Bool) (N M : Nat) (hs : SQ W (fun _ => False) sq E N M) (hN : N ≤ 1000000) (hM : M ≤ 1000000) :
    Calls Tryz.prog 49 #[sq] W fun e w' => DfPost W E N M e w' := by
  have hc := compute_two W sq E N M hs hN hM 50 (by omega) (by omega)
  rw [show ((50 : Nat) : Int) = 50 from rfl] at hc
  obtain ⟨ty, v, fl, fp, fs, rfl, _⟩ := hs
  go_enter Tryz.func49, Tryz.ntmps49
  go_wp2_with (go_at_call 61; go_loud (refine hc.mono ?_; rintro e w1 ⟨d, v2, l, rfl, h1, h2, h3⟩; have H1 := Aside0.mk h1; have H2 := Aside0.mk h2; have H3 := Aside0.mk h3; clear h1 h2 h3))
  go_ret
  exact ⟨d, l, rfl, H1.out, H2.out, H3.out⟩
set_option maxRecDepth 100000 in
theorem diff_lines (W : World) {A1 A2 : Option Addr} {c1 c2 N M : Nat} {f g : Nat → ByteArray} (ha : RdAL W (fun _ => False) A1 N c1 f) (hb : RdAL W (fun _ => False) A2 M c2 g) (hN : N ≤ 1000000) (hM : M ≤ 1000000) :
    Calls Tryz.prog 34 #[.slice A1 N c1, .slice A2 M c2] W fun e w' => DfPost W (fun i j => (f i).toList == (g j).toList) N M e w' := by
  have hd := diff_any W _ _ N M (sq_lines ha hb (by omega) (by omega)) hN hM
  clear ha hb
  go_enter Tryz.func34, Tryz.ntmps34
  go_wp2_with (go_at_call 49; go_loud (refine hd.mono ?_; rintro e w1 ⟨d, l, rfl, h1, h2, h3⟩; have H1 := Aside0.mk h1; have H2 := Aside0.mk h2; have H3 := Aside0.mk h3; clear h1 h2 h3))
  go_ret
  exact ⟨d, l, rfl, H1.out, H2.out, H3.out⟩
end Go.Proofs.YtonajgipkpnpoaaGreatDoor.Gr
namespace Go.Proofs.YtonajgipkpnpoaaGreatDoor.Gr
open Go.RowKit Go.Proofs.YtonajgipkpnpoaaGreatDoorW.PrintWords Go.Myers
open Go.Uni (Df difL Bs splitL off toBE DfOk BE InO tot app)
open Go.Proofs.YtonajgipkpnpoaaGreatDoor.Un (mkS rowS rowN rowE)
set_option linter.unusedVariables false
theorem offs_get : ∀ (ls : List Bs) (o i : Nat), i ≤ ls.length → (Un.offs ls o)[i]? = some (o + (ls.take i).flatten.length)
  | [], o, i, h => by obtain rfl : i = 0 := by simpa using h
                      simp [Un.offs]
  | l :: t, o, 0, h => by simp [Un.offs]
  | l :: t, o, i + 1, h => by
    simp only [Un.offs, List.getElem?_cons_succ]
    rw [offs_get t (o + l.length) i (by simpa using h)]
    simp; omega
theorem join_nil : ∀ xs : List (List UInt8), Lib.join xs [] = xs.flatten
  | [] => rfl
  | [a] => by simp [Lib.join, List.intercalate]
  | a :: b :: t => by
    have := join_nil (b :: t)
    unfold Lib.join List.intercalate at *
    simp only [List.intersperse_cons_cons, List.flatten_cons, List.nil_append] at *
    rw [this]
theorem difL_in {E : Nat → Nat → Bool} {N M : Nat} : ∀ (l : List Dg) (pa pb : Int), 0 ≤ pa → 0 ≤ pb → pa ≤ N → pb ≤ M → Chain E N M l pa pb → ∀ d ∈ difL N M l pa pb, 0 ≤ d.s ∧ d.s ≤ d.e ∧ d.e ≤ N ∧ 0 ≤ d.rs ∧ d.rs ≤ d.re ∧ d.re ≤ M
  | [], pa, pb, h1, h2, h3, h4, _, d, hd => by
    rw [difL_nil] at hd
    split at hd
    · simp at hd; subst hd; exact ⟨h1, h3, Int.le_refl _, h2, h4, Int.le_refl _⟩
    · simp at hd
  | p :: t, pa, pb, h1, h2, h3, h4, hc, d, hd => by
    obtain ⟨c1, c2, c3, c4, c5, _, c7⟩ := hc
    rw [difL_cons] at hd
    rcases List.mem_append.1 hd with hd | hd
    · split at hd
      · simp at hd; subst hd; dsimp only; omega
      · simp at hd
    · exact difL_in t _ _ (by omega) (by omega) c4 c5 c7 d hd
theorem take_three {cur : Array Value} {n i : Nat} (hn : cur.size = n * 3) (hi : i < n) (a b c : Value) :
    (((cur.setIfInBounds (i * 3) a).setIfInBounds (i * 3 + 1) b).setIfInBounds (i * 3 + 2) c).toList.take ((i + 1) * 3) = cur.toList.take (i * 3) ++ [a, b, c] := by
  apply List.ext_getElem?
  intro j
  rw [List.getElem?_take]
  by_cases h : j < (i + 1) * 3
  · rw [if_pos h]
    simp only [Array.toList_setIfInBounds, List.getElem?_set, List.length_set, Array.length_toList]
    by_cases h1 : j < i * 3
    · rw [List.getElem?_append_left (by simp; omega), List.getElem?_take, if_pos h1, if_neg (by omega), if_neg (by omega), if_neg (by omega)]
    · rw [List.getElem?_append_right (by simp; omega)]
      have hl : (cur.toList.take (i * 3)).length = i * 3 := by simp; omega
      rw [hl]
      have : j = i * 3 ∨ j = i * 3 + 1 ∨ j = i * 3 + 2 := by omega
      rcases this with rfl | rfl | rfl
      · rw [if_neg (by omega), if_neg (by omega), if_pos rfl, if_pos (by omega)]; simp
      · rw [if_neg (by omega), if_pos rfl, if_pos (by omega), show i * 3 + 1 - i * 3 = 1 by omega]; rfl
      · rw [if_pos rfl, if_pos (by omega), show i * 3 + 2 - i * 3 = 2 by omega]; rfl
  · rw [if_neg h, List.getElem?_eq_none (by simp; omega)]
structure LnS (W w : World) (gr n : Nat) (es : List BE) : Prop where
  bel : Below W.heap.size W w
  ge : W.heap.size ≤ gr
  row : ∃ cur, w.heap[gr]? = some (.cells cur 68 (0, 0)) ∧ cur.size = n * 3 ∧ cur.toList.take (es.length * 3) = rowE es
theorem LnS.below {W w w' : World} {gr n : Nat} {es : List BE} (h : LnS W w gr n es) (hb : Below w.heap.size w w') : LnS W w' gr n es := by
  obtain ⟨cur, h1, h2⟩ := h.row
  exact ⟨h.bel.trans (hb.mono h.bel.size), h.ge, cur, (hb.block _ (blk_lt h1)).trans h1, h2⟩
theorem LnS.put {W w : World} {gr n : Nat} {es : List BE} (h : LnS W w gr n es) (y : BE) (hn : es.length < n) : LnS W (((w.setCell ⟨gr, es.length * 3, none⟩ (.int .i64 (y.s : Int))).setCell ⟨gr, es.length * 3 + 1, none⟩ (.int .i64 (y.e : Int))).setCell ⟨gr, es.length * 3 + 2, none⟩ (.string (mkS y.new))) gr n (es ++ [y]) := by
  obtain ⟨cur, h1, h2, h3⟩ := h.row
  refine ⟨Below.setCell (Below.setCell (Below.setCell h.bel h.ge _) h.ge _) h.ge _, h.ge, _, blk_set (blk_set (blk_set h1 _ _) _ _) _ _, by simp [h2], ?_⟩
  rw [List.length_append, List.length_singleton, take_three h2 hn, h3, Un.rowE_append]
  rfl
theorem LnS.cells {W w : World} {gr n : Nat} {es : List BE} (h : LnS W w gr n es) {i : Nat} (hi : i < n * 3) : (∃ u, w.cell? ⟨gr, i, none⟩ = some u) ∧ w.frozen? ⟨gr, i, none⟩ = false := by
  obtain ⟨cur, h1, h2, h3⟩ := h.row
  exact ⟨⟨_, (blk_cell h1 i).trans (Array.getElem?_eq_getElem (by omega))⟩, blk_frozen h1 i⟩
theorem LnS.own {W w : World} {gr n : Nat} {es : List BE} (h : LnS W w gr n es) (hn : es.length = n) (hm : n ≤ 1000000000) : w.ownsRow W.heap.size 68 3 (.slice (some ⟨gr, 0, none⟩) n n) n (rowE es) := by
  obtain ⟨cur, h1, h2, h3⟩ := h.row
  rw [hn] at h3
  exact ⟨by rw [Un.rowE_length, hn], Or.inr ⟨gr, n, cur, rfl, h.ge, h1, Nat.le_refl _, by unfold maxLen; omega, h2, h3⟩⟩
structure KB (W0 wb : World) (gr n : Nat) (es : List BE) (w : World) : Prop where
  blk : ∀ k, k < wb.heap.size → k ≠ gr → w.heap[k]? = wb.heap[k]?
  size : wb.heap.size ≤ w.heap.size
  row : LnS W0 w gr n es
section
variable {W0 wb w w' : World} {gr n : Nat} {es : List BE}
theorem KB.start (h : LnS W0 wb gr n es) : KB W0 wb gr n es wb := ⟨fun _ _ _ => rfl, Nat.le_refl _, h⟩
theorem KB.below (h : KB W0 wb gr n es w) (hb : Below w.heap.size w w') : KB W0 wb gr n es w' :=
  ⟨fun k hk hne => (hb.block k (Nat.lt_of_lt_of_le hk h.size)).trans (h.blk k hk hne), Nat.le_trans h.size hb.size, h.row.below hb⟩
theorem KB.drew (h : KB W0 wb gr n es w) : KB W0 wb gr n es w.drew := h.below (pw_below_drewN (Below.refl _ _) 1)
theorem KB.put (h : KB W0 wb gr n es w) {j : Nat} (hj : es.length * 3 ≤ j) (v : Value) : KB W0 wb gr n es (w.setCell ⟨gr, j, none⟩ v) := by
  obtain ⟨cur, h1, h2, h3⟩ := h.row.row
  refine ⟨fun k hk hne => (blk_other _ _ _ hne).trans (h.blk k hk hne), by simpa using h.size, Below.setCell h.row.bel h.row.ge _, h.row.ge, _, blk_set h1 j v, by simp [h2], ?_⟩
  rw [Array.toList_setIfInBounds, List.take_set_of_le (by omega), h3]
theorem KB.cell (h : KB W0 wb gr n es w) {a : Addr} {u : Value} (hc : wb.cell? a = some u) (hne : a.block ≠ gr) : w.cell? a = some u := (World.cell?_of_block (h.blk _ (World.block_lt_of_cell? wb a hc) hne)).trans hc
end
theorem info_ed : (Tryz.prog.info? 68).map (fun i => (i.zero, i.size, i.bytes)) = some (some (.agg #[.int .i64 0, .int .i64 0, .string ⟨#[]⟩]), 3, 32) := by kernel_rfl
def LnPost (W : World) (a b : Bs) (e : Ending) (w' : World) : Prop :=
  ∃ A cap es, e = .returned (.slice A es.length cap) ∧ DfOk (splitL a) (splitL b) 0 0 es ∧ es.length ≤ (splitL a).length + 1 ∧ es.length ≤ (splitL b).length + 1 ∧ w'.ownsRow W.heap.size 68 3 (.slice A es.length cap) es.length (rowE es) ∧ Below W.heap.size W w'
theorem rdal_of {W : World} {B : Nat} {A : Option Addr} {cap : Nat} {ls : List Bs} (h : W.ownsRow B 9 1 (.slice A ls.length cap) ls.length (rowS ls)) : RdAL W (fun _ => False) A ls.length cap (fun i => mkS (ls.getD i [])) := fun h0 => by
  rcases h.2 with ⟨_, h1⟩ | ⟨g, cap', cur, hv, hB, hh, h1, h2, h3, h4⟩
  · omega
  · injection hv with e1 e2 e3
    subst e1 e3
    refine ⟨g, 0, rfl, h1, fun h => h, blk_lt hh, fun i hi => ?_⟩
    have hr : (rowS ls)[i]? = some (.string (mkS (ls.getD i []))) := by
      unfold Un.rowS
      rw [List.getElem?_map, List.getElem?_eq_getElem hi]
      simp [List.getD_eq_getElem?_getD, hi]
    rw [Nat.zero_add]
    exact (own_at h i _ hr).1
set_option maxRecDepth 100000 in
set_option maxHeartbeats 4000000 in
theorem lines_any (W : World) (a b : ByteArray) (ha : a.size ≤ 1000000) (hb0 : b.size ≤ 1000000) :
    Calls Tryz.prog 26 #[.string a, .string b] W fun e w' => LnPost W a.data.toList b.data.toList e w' := by
  have hla : (splitL a.data.toList).length ≤ 1000000 := Nat.le_trans (Go.Uni.splitL_length_le _) (by rw [data_length]; exact ha)
  have hlb : (splitL b.data.toList).length ≤ 1000000 := Nat.le_trans (Go.Uni.splitL_length_le _) (by rw [data_length]; exact hb0)
  have hs1 := Un.splitLines_calls a W (by omega)
  have hs2 := fun w => Un.splitLines_calls b w (by omega)
  obtain ⟨iE, hiE, hzE0, hzE1, hzE2⟩ := info_parts info_ed
  go_enter Tryz.func26, Tryz.ntmps26
  go_upto_region 2 with (go_at_call 33; go_loud (refine hs1.mono ?_; rintro e w1 ⟨v1, q1, rfl, r1, o1, b1⟩; have HR1 := Aside0.mk r1; have HO1 := Aside0.mk o1; have HB1 := Aside0.mk b1; clear r1 o1 b1))
  go_upto_region 3 with (go_at_call 33; go_loud (refine (hs2 _).mono ?_; rintro e w2 ⟨v2, q2, rfl, r2, o2, b2⟩; have HR2 := Aside0.mk r2; have HB2 := Aside0.mk b2; clear r2 o2 b2))
  have hne1 := Go.Uni.splitL_nonempty a.data.toList
  have hne2 := Go.Uni.splitL_nonempty b.data.toList
  obtain ⟨LA, hLA⟩ : ∃ x, x = splitL a.data.toList := ⟨_, rfl⟩
  obtain ⟨LB, hLB⟩ : ∃ x, x = splitL b.data.toList := ⟨_, rfl⟩
  rw [← hLA] at HR1 HO1 hla hne1
  rw [← hLB] at HR2 hlb hne2
  have HLA := Lib.hid hLA
  have HLB := Lib.hid hLB
  clear hLA hLB
  have hr1 := pw_own_below HR1.out HB2.out
  obtain ⟨A1, c1, rfl⟩ := own_slice hr1
  obtain ⟨A2, c2, rfl⟩ := own_slice HR2.out
  have hdl := diff_lines w2 (rdal_of hr1) (rdal_of HR2.out) hla hlb
  clear hr1
  go_upto_region 4 with (go_at_call 34; go_loud (refine hdl.mono ?_; rintro e w3 ⟨d, l, rfl, h1, h2, h3⟩))
  obtain ⟨D, hD⟩ : ∃ D, D = difL LA.length LB.length l 0 0 := ⟨_, rfl⟩
  rw [← hD] at h2
  obtain ⟨AD, cd, rfl⟩ := own_slice h2
  have hin : ∀ x ∈ D, 0 ≤ x.s ∧ x.s ≤ x.e ∧ x.e ≤ LA.length ∧ 0 ≤ x.rs ∧ x.rs ≤ x.re ∧ x.re ≤ LB.length := by
    rw [hD]; exact difL_in l 0 0 (Int.le_refl _) (Int.le_refl _) (by omega) (by omega) h1
  have hok : DfOk LA LB 0 0 (D.map (toBE LA LB)) := by
    rw [hD]
    refine Go.Uni.difL_ok hne1 hne2 (fun i j hi hj he => ?_) l 0 0 (Nat.zero_le _) (Nat.zero_le _) h1
    have he2 : (mkS (LA.getD i [])).toList = (mkS (LB.getD j [])).toList := by simpa using he
    rw [Un.toList_data, Un.toList_data, Un.mkS_toList, Un.mkS_toList] at he2
    rw [List.getElem?_eq_getElem hi, List.getElem?_eq_getElem hj]
    simpa [List.getD_eq_getElem?_getD, hi, hj] using he2
  have hDm : D.length ≤ LB.length + 1 := by
    have h5 := Go.Uni.difL_len LA.length LB.length l 0 0
    rw [← hD] at h5
    have h6 := chain_end l 0 0 h1
    have h7 := chain_le l 0 0 (by omega) (by omega) h1
    omega
  have hDn : D.length ≤ LA.length + 1 := by
    have h5 := Go.Uni.difL_len LA.length LB.length l 0 0
    rw [← hD] at h5
    have := chain_len h1 (Int.le_refl _) (by omega) (by omega)
    omega
  have hby : (iE.bytes : Int) * (D.length : Int) ≤ 281474976710656 := by rw [hzE2]; omega
  have hmk : ∀ W' : World, (Instr.makeSlice 53 (.int .i64 (D.length : Int)) (.int .i64 (D.length : Int))).run Tryz.prog W' = .ok (.slice (some ⟨W'.heap.size, 0, none⟩) D.length D.length) (W'.alloc (.cells (madeCells #[.int .i64 0, .int .i64 0, .string ⟨#[]⟩] (D.length * 3)) 68)) := fun W' => by
    have := run_make (P := Tryz.prog) W' 53 68 iE _ Tryz.underlying53 hiE hzE0 .i64 .i64 (D.length : Int) D.length (by omega) (Int.le_refl _) hby (by omega)
    rw [hzE1, show (Value.agg #[.int .i64 0, .int .i64 0, .string ⟨#[]⟩]).cells = #[.int .i64 0, .int .i64 0, .string ⟨#[]⟩] by kernel_rfl] at this
    simpa using this
  have HO13 := Aside0.mk (pw_own_below (pw_own_below HO1.out HB2.out) h3)
  have HR23 := Aside0.mk (pw_own_below HR2.out h3)
  have HDR := Aside0.mk h2
  have HB3 := Aside0.mk ((HB1.out.trans (HB2.out.mono HB1.out.size)).trans (h3.mono (HB1.out.trans (HB2.out.mono HB1.out.size)).size))
  have HOK := Aside0.mk hok
  have HIN := Aside0.mk hin
  have hst : LnS w3 (w3.alloc (.cells (madeCells #[.int .i64 0, .int .i64 0, .string ⟨#[]⟩] (D.length * 3)) 68)) w3.heap.size D.length [] := ⟨below_alloc (Below.refl _ _) _, Nat.le_refl _, _, new_obj w3 _, size_madeCells _ _, by simp; rfl⟩
  have HST := Aside0.mk hst
  clear hne1 hne2 hdl h1 h2 h3 hD hok hin hst HO1 HR1 HR2 HB1 HB2 hs1 hs2
  go_wp2_with fail
  clear hmk
  go_loopw [31] (fun v31 wr => ∃ i : Nat, v31 = .int .i64 i ∧ i ≤ D.length ∧ Aside0 (LnS w3 wr w3.heap.size D.length ((D.take i).map (toBE LA LB)))) (fun v31 _ => D.length - (intOf v31).toNat)
  case atStart => exact ⟨0, rfl, Nat.zero_le _, HST⟩
  case round =>
    obtain ⟨i, rfl, hi1, HS⟩ := hrel
    clear HST
    by_cases hlt : i < D.length
    · obtain ⟨x, hx⟩ : ∃ x, D[i]? = some x := ⟨_, List.getElem?_eq_getElem hlt⟩
      have hb := HIN.out x (List.mem_of_getElem? hx)
      obtain ⟨s, e, rs, re⟩ := x
      dsimp only at hb
      obtain ⟨s, rfl⟩ : ∃ m : Nat, s = m := ⟨s.toNat, by omega⟩
      obtain ⟨e, rfl⟩ : ∃ m : Nat, e = m := ⟨e.toNat, by omega⟩
      obtain ⟨rs, rfl⟩ : ∃ m : Nat, rs = m := ⟨rs.toNat, by omega⟩
      obtain ⟨re, rfl⟩ : ∃ m : Nat, re = m := ⟨re.toNat, by omega⟩
      obtain ⟨gd, rfl⟩ : ∃ g, AD = some ⟨g, 0, none⟩ := by
        rcases HDR.out.2 with ⟨_, h1⟩ | ⟨g, cap', cur, hv, _⟩
        · omega
        · injection hv with hv
          exact ⟨g, hv⟩
      obtain ⟨AO, co, rfl⟩ := own_slice HO13.out
      obtain ⟨go, rfl⟩ : ∃ g, AO = some ⟨g, 0, none⟩ := by
        rcases HO13.out.2 with ⟨_, h1⟩ | ⟨g, cap', cur, hv, _⟩
        · omega
        · injection hv with hv
          exact ⟨g, hv⟩
      have hdw := pw_own_below HDR.out HS.out.bel
      have hg := rowF_get D i _ hx
      obtain ⟨k0, -⟩ := own_at hdw _ _ (hg 0 _ rfl)
      obtain ⟨k1, -⟩ := own_at hdw _ _ (hg 1 _ rfl)
      obtain ⟨k2, -⟩ := own_at hdw _ _ (hg 2 _ rfl)
      obtain ⟨k3, -⟩ := own_at hdw _ _ (hg 3 _ rfl)
      rw [Nat.add_zero] at k0
      have how := pw_own_below HO13.out HS.out.bel
      have hoc : ∀ m, m ≤ LA.length → wr.cell? ⟨go, m, none⟩ = some (.int .i64 (off LA m : Int)) := fun m hm => (own_at how m _ (by
        show (Un.rowN _)[m]? = _
        unfold Un.rowN
        rw [List.getElem?_map, offs_get _ 0 m hm, Nat.zero_add]
        rfl)).1
      have m0 := hoc s (by omega)
      have m1 := hoc e (by omega)
      obtain ⟨ps, hps⟩ : ∃ x, x = off LA s := ⟨_, rfl⟩
      obtain ⟨pe, hpe⟩ : ∃ x, x = off LA e := ⟨_, rfl⟩
      rw [← hps] at m0
      rw [← hpe] at m1
      have HPS := Lib.hid hps
      have HPE := Lib.hid hpe
      have HOC := Aside0.mk hoc
      have HX := Lib.hid hx
      clear hdw how hoc hg hx hps hpe
      go_upto_region 8 with fail
      obtain ⟨wb, hwb⟩ : ∃ x, x = wr.alloc (.cells #[.int .i64 (s : Int), .int .i64 (e : Int), .int .i64 (rs : Int), .int .i64 (re : Int)] 74) := ⟨_, rfl⟩
      have hbwb : Below wr.heap.size wr wb := by rw [hwb]; exact below_alloc (Below.refl _ _) _
      have hdb : wb.heap[wr.heap.size]? = some (.cells #[.int .i64 (s : Int), .int .i64 (e : Int), .int .i64 (rs : Int), .int .i64 (re : Int)] 74 (0, 0)) := by rw [hwb]; exact new_obj _ _
      have HSB := Aside0.mk (HS.out.below hbwb)
      rw [← hwb]
      have hel : ((D.take i).map (toBE LA LB)).length = i := by rw [List.length_map, List.length_take]; omega
      have mo0 : wb.cell? ⟨go, s, none⟩ = some (.int .i64 (ps : Int)) := (World.cell?_of_block (hbwb.block _ (World.block_lt_of_cell? wr _ m0))).trans m0
      have mo1 : wb.cell? ⟨go, e, none⟩ = some (.int .i64 (pe : Int)) := (World.cell?_of_block (hbwb.block _ (World.block_lt_of_cell? wr _ m1))).trans m1
      obtain ⟨ES, hES⟩ : ∃ x, x = (D.take i).map (toBE LA LB) := ⟨_, rfl⟩
      rw [← hES] at hel HSB
      have hne1 : wr.heap.size ≠ w3.heap.size := by have := HS.out.cells (i := i * 3) (by omega); obtain ⟨⟨_, hh⟩, _⟩ := this; have := World.block_lt_of_cell? wr _ hh; simp at this; omega
      have hne2 : go ≠ w3.heap.size := by have := own_lt HO13.out go rfl; omega
      have hS : ∀ w', KB w3 wb w3.heap.size D.length ES w' → KB w3 wb w3.heap.size D.length ES w' ∧ w'.cell? ⟨wr.heap.size, 0, none⟩ = some (.int .i64 (s : Int)) ∧ w'.cell? ⟨wr.heap.size, 1, none⟩ = some (.int .i64 (e : Int)) ∧ w'.cell? ⟨wr.heap.size, 2, none⟩ = some (.int .i64 (rs : Int)) ∧ w'.cell? ⟨wr.heap.size, 3, none⟩ = some (.int .i64 (re : Int)) ∧ w'.cell? ⟨go, s, none⟩ = some (.int .i64 (ps : Int)) ∧ w'.cell? ⟨go, e, none⟩ = some (.int .i64 (pe : Int)) := fun w' hb' => by
        have hk := (hb'.blk _ (blk_lt hdb) hne1).trans hdb
        exact ⟨hb', (blk_cell hk 0).trans rfl, (blk_cell hk 1).trans rfl, (blk_cell hk 2).trans rfl, (blk_cell hk 3).trans rfl, hb'.cell mo0 hne2, hb'.cell mo1 hne2⟩
      have HSW := Aside0.mk hS
      have hkb := KB.start HSB.out
      have hkb1 := hkb.drew
      have hst := hS wb hkb
      have HES := Lib.hid hES
      have E0 := Lib.hid (show ES.length * 3 ≤ i * 3 by omega)
      have E1 := Lib.hid (show ES.length * 3 ≤ i * 3 + 1 by omega)
      have E2 := Lib.hid (show ES.length * 3 ≤ i * 3 + 2 by omega)
      have L0 := Lib.hid (show i * 3 < D.length * 3 by omega)
      have L1 := Lib.hid (show i * 3 + 1 < D.length * 3 by omega)
      have L2 := Lib.hid (show i * 3 + 2 < D.length * 3 by omega)
      have HEL := Lib.hid hel
      clear hES hne1 hne2 hel
      clear hS m0 m1 mo0 mo1 hdb hwb
      obtain ⟨b0, b1, b2, b3, b4, b5⟩ := hb
      have hrw := pw_own_below (pw_own_below HR23.out HS.out.bel) hbwb
      have hM2 : LB.length ≤ c2 := by
        rcases hrw.2 with ⟨h1, h2⟩ | ⟨g, cap', cur, hv, _, _, h2, _⟩
        · omega
        · injection hv with _ _ hv; omega
      have i1 : ((re : Nat) : Int) ≤ (c2 : Int) := by omega
      have i2 : ((rs : Nat) : Int) ≤ (re : Int) := by omega
      have i3 : s < LA.length + 1 := by omega
      have i4 : e < LA.length + 1 := by omega
      have i5 : ((s : Nat) : Int) < (LA.length : Int) + 1 := by omega
      have i6 : ((e : Nat) : Int) < (LA.length : Int) + 1 := by omega
      have i7 : re ≤ c2 := by omega
      have i8 : rs ≤ re := by omega
      by_cases hcr : c2 = rs
      · have hre : re = c2 := by omega
        have hrs : rs = c2 := hcr.symm
        subst hre hrs
        clear i1 i2 i7 i8 hcr
        obtain ⟨S0, hS0⟩ : ∃ x, x = mkS [] := ⟨_, rfl⟩
        have hj : ∀ w', KB w3 wb w3.heap.size D.length ES w' → Calls Tryz.prog 35 #[.slice A2 0 0, .string ⟨#[]⟩] w' fun e w2 => e = .returned (.string S0) ∧ KB w3 wb w3.heap.size D.length ES w2 := fun w' hb' => (Tryz.strings_Join_none A2 0 ⟨#[]⟩ w').mono (fun e w2 ⟨h1, h2⟩ => ⟨by rw [h1, hS0]; rfl, by rw [h2]; exact hb'⟩)
        have HS0 := Lib.hid hS0
        clear hS0
        have HJ := Aside0.mk hj
        clear hj
        go_region_held3 (fun w' => KB w3 wb w3.heap.size D.length ES w' ∧ w'.cell? ⟨wr.heap.size, 0, none⟩ = some (.int .i64 (s : Int)) ∧ w'.cell? ⟨wr.heap.size, 1, none⟩ = some (.int .i64 (e : Int)) ∧ w'.cell? ⟨wr.heap.size, 2, none⟩ = some (.int .i64 (rs : Int)) ∧ w'.cell? ⟨wr.heap.size, 3, none⟩ = some (.int .i64 (rs : Int)) ∧ w'.cell? ⟨go, s, none⟩ = some (.int .i64 (ps : Int)) ∧ w'.cell? ⟨go, e, none⟩ = some (.int .i64 (pe : Int))) (first | (refine HSW.out _ ?_; first | exact hkb1 | exact hb5 | exact hkb | exact KB.put (KB.put (KB.put hb5 E0.out _) E1.out _) E2.out _) | go_keep) (first | (go_at_call 35; refine (HJ.out _ ?_).mono ?_; (first | exact hkb1 | exact hb5 | exact hkb); rintro e w5 ⟨rfl, hb5⟩; obtain ⟨⟨z0, t0⟩, g0⟩ := hb5.row.cells L0.out; obtain ⟨⟨z1, t1⟩, g1⟩ := hb5.row.cells L1.out; obtain ⟨⟨z2, t2⟩, g2⟩ := hb5.row.cells L2.out))
        go_wp2_with fail
        go_roundw
        case rel =>
          refine ⟨i + 1, by go_num, by omega, ⟨?_⟩⟩
          have hput := hb5.row.put ⟨ps, pe, []⟩ (by rw [HEL.out]; exact hlt)
          rw [HEL.out, HES.out] at hput
          have het : (D.take (i + 1)).map (toBE LA LB) = (D.take i).map (toBE LA LB) ++ [⟨ps, pe, []⟩] := by
            have hx2 := List.getElem?_eq_some_iff.1 HX.out
            rw [List.take_succ_eq_append_getElem hlt, List.map_append, hx2.2, HPS.out, HPE.out]
            show _ ++ [(⟨off LA s, off LA e, ((LB.take rs).drop rs).flatten⟩ : BE)] = _
            rw [show (LB.take rs).drop rs = [] from List.drop_eq_nil_of_le (by simp; omega)]
            rfl
          rw [het, HS0.out]
          exact hput
        case measure => simp [intOf]; omega
      · obtain ⟨g2, rfl⟩ : ∃ g, A2 = some ⟨g, 0, none⟩ := by
          rcases hrw.2 with ⟨h1, h2⟩ | ⟨g, cap', cur, hv, _⟩
          · injection h1 with _ _ h1; omega
          · injection hv with hv
            exact ⟨g, hv⟩
        have hg2 : g2 ≠ w3.heap.size := by have := own_lt HR23.out g2 rfl; omega
        obtain ⟨S0, hS0⟩ : ∃ x, x = mkS ((LB.take re).drop rs).flatten := ⟨_, rfl⟩
        have hxl : (((LB.take re).drop rs).map mkS).length = re - rs := by simp; omega
        have hfl : ((LB.take re).drop rs).flatten.length ≤ 1000000 := by
          have h1 := congrArg List.length (Go.Uni.flat_drop LB i8)
          have h2 := congrArg List.length (Go.Uni.off_split LB rs)
          rw [List.length_append] at h1 h2
          have h3 : LB.flatten.length ≤ 1000000 := by rw [HLB.out, Go.Uni.flatten_splitL, data_length]; exact hb0
          omega
        have hjn : Lib.join ((((LB.take re).drop rs).map mkS).map (·.data.toList)) (⟨#[]⟩ : ByteArray).data.toList = ((LB.take re).drop rs).flatten := by
          rw [List.map_map, show ((fun x : ByteArray => x.data.toList) ∘ mkS) = id from funext fun l => Un.mkS_toList l, List.map_id]
          exact join_nil _
        have hj : ∀ w', KB w3 wb w3.heap.size D.length ES w' → Calls Tryz.prog 35 #[.slice (some ⟨g2, rs, none⟩) (re - rs) (c2 - rs), .string ⟨#[]⟩] w' fun e w2 => e = .returned (.string S0) ∧ KB w3 wb w3.heap.size D.length ES w2 := fun w' hb' => by
          by_cases hre : re = rs
          · have he : ((LB.take re).drop rs).flatten = [] := by rw [List.drop_eq_nil_of_le (by simp; omega)]; rfl
            have := Tryz.strings_Join_none (some ⟨g2, rs, none⟩) (c2 - rs) ⟨#[]⟩ w'
            rw [show re - rs = 0 by omega]
            exact this.mono (fun e w2 ⟨h1, h2⟩ => ⟨by rw [h1, hS0, he]; rfl, by rw [h2]; exact hb'⟩)
          · have := Tryz.strings_Join g2 rs (c2 - rs) (((LB.take re).drop rs).map mkS) ⟨#[]⟩ w' (fun j x hx => by
              rw [List.getElem?_map, List.getElem?_drop] at hx
              have hjl : rs + j < re := by
                rcases Nat.lt_or_ge (rs + j) re with h | h
                · exact h
                · rw [List.getElem?_eq_none (by simp; omega)] at hx; cases hx
              rw [List.getElem?_take, if_pos hjl, List.getElem?_eq_getElem (by omega)] at hx
              obtain rfl := Option.some.inj hx
              refine hb'.cell (own_at hrw (rs + j) _ ?_).1 hg2
              unfold Un.rowS
              rw [List.getElem?_map, List.getElem?_eq_getElem (by omega)]
              rfl) (by have h1 := own_lt hrw g2 rfl; exact Nat.lt_of_lt_of_le h1 hb'.size) (by rw [hxl]; omega) (by rw [hxl]; omega) (by rw [hjn]; omega)
            rw [hxl, hjn] at this
            exact this.mono (fun e w2 ⟨h1, h2⟩ => ⟨by rw [h1, hS0]; rfl, hb'.below h2⟩)
        have HS0 := Lib.hid hS0
        have HJ := Aside0.mk hj
        have hcr2 : (c2 = rs) = False := by simpa using hcr
        clear hS0 hj hjn hfl hxl hg2 hrw
        go_region_held3 (fun w' => KB w3 wb w3.heap.size D.length ES w' ∧ w'.cell? ⟨wr.heap.size, 0, none⟩ = some (.int .i64 (s : Int)) ∧ w'.cell? ⟨wr.heap.size, 1, none⟩ = some (.int .i64 (e : Int)) ∧ w'.cell? ⟨wr.heap.size, 2, none⟩ = some (.int .i64 (rs : Int)) ∧ w'.cell? ⟨wr.heap.size, 3, none⟩ = some (.int .i64 (re : Int)) ∧ w'.cell? ⟨go, s, none⟩ = some (.int .i64 (ps : Int)) ∧ w'.cell? ⟨go, e, none⟩ = some (.int .i64 (pe : Int))) (first | (refine HSW.out _ ?_; first | exact hkb1 | exact hb5 | exact hkb | exact KB.put (KB.put (KB.put hb5 E0.out _) E1.out _) E2.out _) | go_keep) (first | (go_at_call 35; refine (HJ.out _ ?_).mono ?_; (first | exact hkb1 | exact hb5 | exact hkb); rintro e w5 ⟨rfl, hb5⟩; obtain ⟨⟨z0, t0⟩, g0⟩ := hb5.row.cells L0.out; obtain ⟨⟨z1, t1⟩, g1⟩ := hb5.row.cells L1.out; obtain ⟨⟨z2, t2⟩, g2⟩ := hb5.row.cells L2.out))
        go_wp2_with fail
        go_roundw
        case rel =>
          refine ⟨i + 1, by go_num, by omega, ⟨?_⟩⟩
          have hput := hb5.row.put ⟨ps, pe, ((LB.take re).drop rs).flatten⟩ (by rw [HEL.out]; exact hlt)
          rw [HEL.out, HES.out] at hput
          have het : (D.take (i + 1)).map (toBE LA LB) = (D.take i).map (toBE LA LB) ++ [⟨ps, pe, ((LB.take re).drop rs).flatten⟩] := by
            have hx2 := List.getElem?_eq_some_iff.1 HX.out
            rw [List.take_succ_eq_append_getElem hlt, List.map_append, hx2.2, HPS.out, HPE.out]
            rfl
          rw [het, HS0.out]
          exact hput
        case measure => simp [intOf]; omega
    · obtain rfl : i = D.length := by omega
      have hown := HS.out.own (by rw [List.length_map, List.take_length]) (by omega)
      rw [List.take_length] at hown
      have hml : (D.map (toBE LA LB)).length = D.length := List.length_map ..
      have hb3 := HB3.out.trans (HS.out.bel.mono HB3.out.size)
      have HOW := Aside0.mk hown
      have HBB := Aside0.mk hb3
      have HML := Lib.hid hml
      clear hown hb3 hml
      go_wp2_with fail
      go_ret
      refine ⟨some ⟨w3.heap.size, 0, none⟩, D.length, D.map (toBE LA LB), by rw [HML.out]; rfl, ?_, ?_, ?_, ?_, HBB.out⟩
      · rw [← HLA.out, ← HLB.out]; exact HOK.out
      · rw [HML.out, ← HLA.out]; exact hDn
      · rw [HML.out, ← HLB.out]; exact hDm
      · rw [HML.out]; exact own_base_mono HOW.out HB3.out.size
end Go.Proofs.YtonajgipkpnpoaaGreatDoor.Gr
