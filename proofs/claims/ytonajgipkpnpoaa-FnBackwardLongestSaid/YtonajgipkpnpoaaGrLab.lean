/- label.get and label.set. -/
import Derived.Test.YtonajgipkpnpoaaGrMem
import Derived.Deep.LoopGhost
import Derived.Deep.QuietTactic
import Derived.BigQuiet
import Derived.RegionTactic
import Derived.BigRegion
import Derived.StillTailTactics
import Derived.WalkSpells
import Derived.WalkLawsBesides
import Derived.IntWalk
import Derived.Deep.CutBlock
import Derived.Deep.DeepCutAuto
import Derived.Maps.AppendAt
import Derived.Outline
namespace Go.Proofs.Ytonajgipkpnpoaa.Gr
open Go.RowKit Go.Proofs.YtonajgipkpnpoaaW.PrintWords

set_option maxRecDepth 100000 in
theorem label_get (W : World) (B ge c : Nat) (F : Nat → Prop) (v : Value) (n : Nat) (L : Nat → Nat → Int) (hc : W.cell? ⟨ge, c, none⟩ = some v) (hT : Tri W B F v n L) (D j : Nat) (k : Int) (hD : D < n) (hj : (D : Int) + k = 2 * j) (hjD : j ≤ D) (hn : D < 1099511627776) :
    Calls Try.prog 42 #[.pointer (some ⟨ge, c, none⟩), .int .i64 D, .int .i64 k] W fun e w' => e = .returned (.int .i64 (L D j)) ∧ W = w' := by
  obtain ⟨len, cs, br, T⟩ := hT
  obtain ⟨bo, cap, cur, rfl, hB, hh, hlc, hcm, hcs, ht⟩ := T.outer (by have := T.nl; omega)
  have hr := T.row D hD
  have c1 : W.cell? ⟨bo, D, none⟩ = some (.slice (some ⟨br D, 0, none⟩) (D + 1) (D + 1)) := (blk_cell hh D).trans (take_get ht hr.2.2.1)
  have c2 : W.cell? ⟨br D, j, none⟩ = some (.int .i64 (L D j)) := (blk_cell hr.2.2.2 j).trans (rowOf_get L D j hjD)
  have hlen : D < len := by have := T.nl; omega
  have hlm : len ≤ 9223372036854775807 := by unfold maxLen at hcm; omega
  have k1 : k ≤ D := by omega
  have k2 : -(D : Int) ≤ k := by omega
  have hq : ((D : Int) + k) / 2 = (j : Int) := by omega
  have hj2 : (j : Int) < D + 1 := by omega
  have HJ := Lib.hid hj
  clear hj T hr hh ht hcs
  go_enter Try.func42, Try.ntmps42
  go_wp2
  go_ret
  exact ⟨rfl, rfl⟩

set_option maxRecDepth 100000 in
/-- the level is there -/
theorem label_set_old (W : World) (B ge c : Nat) (cs0 : Array Value) (F : Nat → Prop) (v : Value) (n : Nat) (L : Nat → Nat → Int) (hg : W.heap[ge]? = some (.cells cs0 85 (0, 0))) (hcv : cs0[c]? = some v) (hT : Tri W B F v n L) (hFg : ¬ F ge) (_hBg : B ≤ ge)
    (D j : Nat) (k x : Int) (hD : D < n) (hj : (D : Int) + k = 2 * j) (hjD : j ≤ D) (hn : D < 1099511627776) :
    Calls Try.prog 41 #[.pointer (some ⟨ge, c, none⟩), .int .i64 D, .int .i64 k, .int .i64 x] W fun e w' => e = .returned (.tuple #[]) ∧ SetPost W B ge c cs0 F n L D j x w' := by
  obtain ⟨len, cs, br, T⟩ := hT
  obtain ⟨bo, cap, cur, rfl, hB, hh, hlc, hcm, hcs, ht⟩ := T.outer (by have := T.nl; omega)
  have hr := T.row D hD
  have c0 : W.cell? ⟨ge, c, none⟩ = some (.slice (some ⟨bo, 0, none⟩) len cap) := (blk_cell hg c).trans hcv
  have c1 : W.cell? ⟨bo, D, none⟩ = some (.slice (some ⟨br D, 0, none⟩) (D + 1) (D + 1)) := (blk_cell hh D).trans (take_get ht hr.2.2.1)
  have c2 : W.cell? ⟨br D, j, none⟩ = some (.int .i64 (L D j)) := (blk_cell hr.2.2.2 j).trans (rowOf_get L D j hjD)
  have f2 := blk_frozen hr.2.2.2 j
  have hlen : D < len := by have := T.nl; omega
  have hlm : len ≤ 9223372036854775807 := by unfold maxLen at hcm; omega
  have k1 : k ≤ D := by omega
  have k2 : -(D : Int) ≤ k := by omega
  have hq : ((D : Int) + k) / 2 = (j : Int) := by omega
  have hj2 : (j : Int) < D + 1 := by omega
  have HJ := Lib.hid hj
  have hne := fun W' => Lib.run_eql_slice_nil (P := Try.prog) W' 36 3 (some ⟨br D, 0, none⟩) (D + 1) (D + 1) 0 0 Try.underlying36
  have hfin : SetPost W B ge c cs0 F n L D j x (W.setCell ⟨br D, j, none⟩ (.int .i64 x)) := by
    have hbg : ge ≠ br D := fun e => hFg (by rw [e]; exact hr.1)
    refine ⟨rfl, rfl, rfl, by simp [World.setCell], fun q _ _ hF => Below.heap_setCell W _ _ q (fun e => hF (by rw [e]; exact hr.1)), .slice (some ⟨bo, 0, none⟩) len cap, F, setL L D j x, ?_, ⟨len, cs, br, ?_⟩, fun k hk => Or.inl hk, hFg, by simp [setL], fun d i _ h => by simp only [setL]; rw [if_neg h]⟩
    · rw [Below.heap_setCell _ _ _ _ hbg, hg]
      congr 2
      apply Array.ext_getElem?
      intro i
      rw [Array.getElem?_setIfInBounds]
      by_cases e : c = i
      · subst e
        have hcl : c < cs0.size := (Array.getElem?_eq_some_iff.1 hcv).1
        rw [if_pos rfl, if_pos hcl, hcv]
      · rw [if_neg e]
    · rw [if_pos hD]
      refine ⟨own_move T.own (fun q hq => Below.heap_setCell W _ _ q (fun e => hr.2.1 (by rw [hq, e]))), T.fo, T.nl, T.nil_, fun d hd => ?_, T.inj, fun q hq => ⟨(T.lo q hq).1, by simpa [World.setCell] using (T.lo q hq).2⟩⟩
      have hrd := T.row d hd
      refine ⟨hrd.1, hrd.2.1, hrd.2.2.1, ?_⟩
      by_cases e : d = D
      · subst e
        rw [blk_set hrd.2.2.2, rowOf_set]
      · rw [Below.heap_setCell _ _ _ _ (fun h => e (T.inj d D hd hD h)), rowOf_other _ _ _ _ _ e]
        exact hrd.2.2.2
  have HF := Lib.hid hfin
  clear hj T hr hh ht hcs hfin hg hcv hB
  go_enter Try.func41, Try.ntmps41
  go_wp2
  refine wp_loop_rounds 1 ?_; rw [rounds_succ]
  go_wp2
  go_end0
  exact ⟨rfl, HF.out⟩

/-- behind the loop that makes room for the level -/
structure Room (W0 W : World) (B ge c : Nat) (cs0 : Array Value) (F : Nat → Prop) (n : Nat) (L : Nat → Nat → Int) : Prop where
  os : W.os = W0.os
  tape : W.tape = W0.tape
  output : W.output = W0.output
  size : W0.heap.size ≤ W.heap.size
  keep : ∀ k, k < W0.heap.size → k ≠ ge → ¬ F k → W.heap[k]? = W0.heap[k]?
  ex : ∃ v F' len cs br, W.heap[ge]? = some (.cells (cs0.setIfInBounds c v) 85 (0, 0)) ∧ TriD W B F' v n L len cs br ∧ n < len ∧ (∀ k, F' k → F k ∨ W0.heap.size ≤ k) ∧ ¬ F' ge

theorem set_same {cs : Array Value} {c : Nat} {v : Value} (h : cs[c]? = some v) : cs.setIfInBounds c v = cs := by
  apply Array.ext_getElem?
  intro i
  rw [Array.getElem?_setIfInBounds]
  by_cases e : c = i
  · subst e
    rw [if_pos rfl, if_pos (Array.getElem?_eq_some_iff.1 h).1, h]
  · rw [if_neg e]

theorem info36 : (Try.prog.info? 36).map (fun i => (i.zero, i.size, i.bytes)) = some (some (.slice none 0 0), 1, 24) := by kernel_rfl

/-- room for the level was made by one append -/
theorem room_append {W w1 : World} {B ge c : Nat} {cs0 : Array Value} {F : Nat → Prop} {n cap : Nat} {A0 : Option Addr} {L : Nat → Nat → Int} {cs : List Value} {br : Nat → Nat} {v1 : Value} {o : Obj}
    (hg : W.heap[ge]? = some (.cells cs0 85 (0, 0))) (hT : TriD W B F (.slice A0 n cap) n L n cs br) (hFg : ¬ F ge)
    (hown : w1.ownsRow B 36 1 v1 (n + 1) (cs ++ [.slice none 0 0])) (hgr : (W.alloc o).grownBy w1 (Value.slice A0 n cap).ownBlock)
    (hat : v1.ownBlock = (Value.slice A0 n cap).ownBlock ∨ v1.ownBlock = some (W.alloc o).heap.size) : Room W (w1.setCell ⟨ge, c, none⟩ v1) B ge c cs0 F n L := by
  have hgl : ge < W.heap.size := blk_lt hg
  have hal : (W.alloc o).heap.size = W.heap.size + 1 := by simp
  have hs := hgr.size
  have hk0 : ∀ k, k < W.heap.size → (Value.slice A0 n cap).ownBlock ≠ some k → w1.heap[k]? = W.heap[k]? := fun k hk hne => (hgr.block k (by omega) (fun e => hne e.symm)).trans (Below.heap_alloc W o k hk)
  have hgne : (Value.slice A0 n cap).ownBlock ≠ some ge := fun e => hFg (hT.fo ge e)
  have hg1 : w1.heap[ge]? = some (.cells cs0 85 (0, 0)) := (hk0 ge hgl hgne).trans hg
  have hv1ge : v1.ownBlock ≠ some ge := by
    rcases hat with h | h
    · rw [h]; exact hgne
    · rw [h]; intro e; injection e with e; omega
  have hbr : ∀ D, D < n → v1.ownBlock ≠ some (br D) := fun D hD => by
    have hr := hT.row D hD
    rcases hat with h | h
    · rw [h]; exact hr.2.1
    · rw [h]; intro e; injection e with e
      have := (hT.lo _ hr.1).2; omega
  have hcl : cs.length = n := by have := hT.own.1; simpa using this
  refine ⟨hgr.os, hgr.tape, hgr.output, by simp [World.setCell]; omega, fun k hk hne hF => ?_, v1, (fun k => F k ∨ v1.ownBlock = some k), n + 1, cs ++ [.slice none 0 0], br, blk_set hg1 c v1, ?_, by omega, fun k hk => ?_, fun h => h.elim hFg (fun h => hv1ge h)⟩
  · rw [Below.heap_setCell _ _ _ _ hne]
    exact hk0 k hk (fun e => hF (hT.fo k e))
  · refine ⟨own_move hown (fun k hk => Below.heap_setCell _ _ _ _ (fun e => hv1ge (by rw [hk, e]))), fun k hk => Or.inr hk, by omega, fun D h1 h2 => ?_, fun D hD => ?_, hT.inj, fun k hk => ?_⟩
    · obtain rfl : D = n := by omega
      rw [List.getElem?_append_right (by omega), hcl]; simp
    · have hr := hT.row D hD
      have hl := (hT.lo _ hr.1).2
      refine ⟨Or.inl hr.1, hbr D hD, ?_, ?_⟩
      · rw [List.getElem?_append_left (by omega)]; exact hr.2.2.1
      · rw [Below.heap_setCell _ _ _ _ (fun e => hFg (by have := hr.1; rwa [show br D = ge from e] at this))]
        exact (hk0 _ hl hr.2.1).trans hr.2.2.2
    · have hsz : (w1.setCell ⟨ge, c, none⟩ v1).heap.size = w1.heap.size := by simp [World.setCell]
      rcases hk with hk | hk
      · have := hT.lo k hk; omega
      · exact ⟨own_base hown k hk, by rw [hsz]; exact own_lt hown k hk⟩
  · rcases hk with hk | hk
    · exact Or.inl hk
    · rcases hat with h | h
      · exact Or.inl (hT.fo k (h.symm.trans hk))
      · right; rw [h] at hk; injection hk with hk; omega

theorem made0 (L : Nat → Nat → Int) (n : Nat) : madeCells #[.int .i64 0] (n + 1) = rowOf (fun d i => if d = n then 0 else L d i) n := by
  apply Array.ext'
  rw [toList_madeCells_one]
  simp only [rowOf, if_pos]
  apply List.ext_getElem
  · simp
  · intro i h1 h2
    simp

/-- the new level stands in its row, the label in it -/
theorem room_set {W wc : World} {B ge c : Nat} {cs0 : Array Value} {F F1 : Nat → Prop} {n len1 cap1 bo : Nat} {L : Nat → Nat → Int} {cs1 : List Value} {br1 : Nat → Nat} {cur : Array Value}
    (hR : Room W wc B ge c cs0 F n L) (hBW : B ≤ W.heap.size) (hg1 : wc.heap[ge]? = some (.cells (cs0.setIfInBounds c (.slice (some ⟨bo, 0, none⟩) len1 cap1)) 85 (0, 0)))
    (T1 : TriD wc B F1 (.slice (some ⟨bo, 0, none⟩) len1 cap1) n L len1 cs1 br1) (hlt : n < len1) (hF1 : ∀ k, F1 k → F k ∨ W.heap.size ≤ k) (hFg1 : ¬ F1 ge)
    (hB : B ≤ bo) (hh : wc.heap[bo]? = some (.cells cur 36 (0, 0))) (hlc : len1 ≤ cap1) (hcm : cap1 ≤ maxLen) (hcs : cur.size = cap1) (ht : cur.toList.take len1 = cs1) (j : Nat) (hj : j ≤ n) (x : Int) (W2 : World)
    (hW2 : W2 = ((wc.alloc (.cells (madeCells #[.int .i64 0] (n + 1)) 3)).setCell ⟨bo, n, none⟩ (.slice (some ⟨wc.heap.size, 0, none⟩) (n + 1) (n + 1))).drew) :
    SetPost W B ge c cs0 F n L n j x (W2.setCell ⟨wc.heap.size, j, none⟩ (.int .i64 x)) ∧ W2.cell? ⟨ge, c, none⟩ = wc.cell? ⟨ge, c, none⟩ ∧ W2.cell? ⟨bo, n, none⟩ = some (.slice (some ⟨wc.heap.size, 0, none⟩) (n + 1) (n + 1)) ∧
      W2.cell? ⟨wc.heap.size, j, none⟩ = some (.int .i64 0) ∧ W2.frozen? ⟨wc.heap.size, j, none⟩ = false := by
  have hbl : bo < wc.heap.size := blk_lt hh
  have hgl : ge < wc.heap.size := blk_lt hg1
  have hgb : ge ≠ bo := fun e => hFg1 (T1.fo ge (by rw [e]; rfl))
  have hsz : W2.heap.size = wc.heap.size + 1 := by subst hW2; simp [World.setCell, World.drew]
  have hd : ∀ w : World, w.drew.heap = w.heap := fun _ => rfl
  have hk2 : ∀ k, k < wc.heap.size → k ≠ bo → W2.heap[k]? = wc.heap[k]? := fun k hk hne => by
    subst hW2
    rw [hd, Below.heap_setCell _ _ _ _ hne]
    exact Below.heap_alloc wc _ k hk
  have hn2 : W2.heap[wc.heap.size]? = some (.cells (rowOf (fun d i => if d = n then 0 else L d i) n) 3 (0, 0)) := by
    subst hW2
    rw [hd, Below.heap_setCell _ _ _ _ (show wc.heap.size ≠ bo by omega), show (wc.alloc (.cells (madeCells #[.int .i64 0] (n + 1)) 3)).heap[wc.heap.size]? = some (.cells (madeCells #[.int .i64 0] (n + 1)) 3 (0, 0)) from by rw [show (wc.alloc (.cells (madeCells #[.int .i64 0] (n + 1)) 3)).heap = wc.heap.push (.cells (madeCells #[.int .i64 0] (n + 1)) 3) from rfl]; simp, made0 L]
  have hb2 : W2.heap[bo]? = some (.cells (cur.setIfInBounds n (.slice (some ⟨wc.heap.size, 0, none⟩) (n + 1) (n + 1))) 36 (0, 0)) := by
    subst hW2
    rw [hd]
    exact blk_set ((Below.heap_alloc wc _ bo hbl).trans hh) n _
  have hws : W.heap.size ≤ wc.heap.size := hR.size
  have hFbo : F1 bo := T1.fo bo rfl
  refine ⟨⟨by subst hW2; exact hR.os, by subst hW2; exact hR.tape, by subst hW2; exact hR.output, by simp [World.setCell]; omega, fun k hk hne hF => ?_, .slice (some ⟨bo, 0, none⟩) len1 cap1, (fun k => F1 k ∨ k = wc.heap.size), setL (fun d i => if d = n then 0 else L d i) n j x, ?_, ?_, fun k hk => ?_, fun h => h.elim hFg1 (fun h => by omega), by simp [setL], fun d i hd h => ?_⟩, ?_, ?_, ?_, ?_⟩
  · have hne2 : k ≠ bo := fun e => by
      rcases hF1 bo hFbo with h | h
      · exact hF (by rw [e]; exact h)
      · omega
    rw [Below.heap_setCell _ _ _ _ (show k ≠ wc.heap.size by omega), hk2 k (by omega) hne2]
    exact hR.keep k hk hne hF
  · rw [Below.heap_setCell _ _ _ _ (show ge ≠ wc.heap.size by omega), hk2 ge hgl hgb]
    exact hg1
  · rw [if_neg (Nat.lt_irrefl n)]
    refine ⟨len1, cs1.set n (.slice (some ⟨wc.heap.size, 0, none⟩) (n + 1) (n + 1)), (fun D => if D = n then wc.heap.size else br1 D), ?_⟩
    have hl1 : cs1.length = len1 := by have := T1.own.1; simpa using this
    refine ⟨⟨by simpa using hl1, Or.inr ⟨bo, cap1, _, rfl, hB, (Below.heap_setCell _ _ _ _ (show bo ≠ wc.heap.size by omega)).trans hb2, hlc, hcm, by simpa using hcs, ?_⟩⟩, fun k hk => Or.inl (T1.fo k hk), by omega, fun D h1 h2 => ?_, fun D hD => ?_, fun D D' hD hD' e => ?_, fun k hk => ?_⟩
    · rw [Array.toList_setIfInBounds, Nat.mul_one, List.take_set, ht]
    · rw [List.getElem?_set_ne (by omega)]
      exact T1.nil_ D (by omega) h2
    · by_cases e : D = n
      · subst e
        rw [if_pos rfl]
        refine ⟨Or.inr rfl, fun h => by injection h with h; simp at h; omega, ?_, ?_⟩
        · rw [List.getElem?_set_self (by omega)]
        · rw [blk_set hn2, rowOf_set]
      · have hr := T1.row D (by omega)
        have hb1 := (T1.lo _ hr.1).2
        rw [if_neg e]
        refine ⟨Or.inl hr.1, hr.2.1, ?_, ?_⟩
        · rw [List.getElem?_set_ne (by omega)]; exact hr.2.2.1
        · rw [Below.heap_setCell _ _ _ _ (show br1 D ≠ wc.heap.size by omega), hk2 _ hb1 (fun h => hr.2.1 (by rw [h]; rfl)), rowOf_other _ _ _ _ _ e]
          have : rowOf (fun d i => if d = n then 0 else L d i) D = rowOf L D := by unfold rowOf; simp [e]
          rw [this]
          exact hr.2.2.2
    · have hlo : ∀ d, d < n → br1 d < wc.heap.size := fun d hd => (T1.lo _ (T1.row d hd).1).2
      by_cases e1 : D = n <;> by_cases e2 : D' = n
      · omega
      · have := hlo D' (by omega); simp [e1, e2] at e; omega
      · have := hlo D (by omega); simp [e1, e2] at e; omega
      · simp only [e1, e2, if_false] at e
        exact T1.inj D D' (by omega) (by omega) e
    · have hs2 : (W2.setCell ⟨wc.heap.size, j, none⟩ (.int .i64 x)).heap.size = W2.heap.size := by simp [World.setCell]
      rw [hs2, hsz]
      rcases hk with hk | hk
      · have := T1.lo k hk; omega
      · omega
  · rcases hk with hk | hk
    · exact hF1 k hk
    · right; omega
  · simp only [setL]
    rw [if_neg (by omega), if_neg (by omega)]
  · rw [blk_cell hg1, blk_cell ((hk2 ge hgl hgb).trans hg1)]
  · rw [blk_cell hb2, Array.getElem?_setIfInBounds, if_pos rfl, if_pos (by omega)]
  · rw [blk_cell hn2, rowOf_get _ _ _ hj, if_pos rfl]
  · exact blk_frozen hn2 j

set_option maxRecDepth 100000 in
/-- a new level -/
theorem label_set_new (W : World) (B ge c : Nat) (cs0 : Array Value) (F : Nat → Prop) (v : Value) (n : Nat) (L : Nat → Nat → Int) (hg : W.heap[ge]? = some (.cells cs0 85 (0, 0))) (hcv : cs0[c]? = some v) (hT : Tri W B F v n L) (hFg : ¬ F ge) (hBW : B ≤ W.heap.size)
    (j : Nat) (k x : Int) (hj : (n : Int) + k = 2 * j) (hjD : j ≤ n) (hn : n < 1099511627776) :
    Calls Try.prog 41 #[.pointer (some ⟨ge, c, none⟩), .int .i64 n, .int .i64 k, .int .i64 x] W fun e w' => e = .returned (.tuple #[]) ∧ SetPost W B ge c cs0 F n L n j x w' := by
  obtain ⟨len, cs, br, T⟩ := hT
  obtain ⟨A0, cap, rfl⟩ := own_slice T.own
  have c0 : W.cell? ⟨ge, c, none⟩ = some (.slice A0 len cap) := (blk_cell hg c).trans hcv
  have hlm : len ≤ 9223372036854775807 := by
    rcases T.own.2 with ⟨_, hz⟩ | ⟨g, cap, cur, hv, hgb, hheap, hncap, hcapm, hcsz, htake⟩
    · omega
    · unfold maxLen at hcapm; omega
  have TT := Aside0.mk T
  have HG := Aside0.mk hg
  have HCV := Lib.hid hcv
  have hnl := T.nl
  clear T hg hcv
  go_enter Try.func41, Try.ntmps41
  go_upto_block 0 with fail
  go_cut [] from 11 to 26 (fun w1 => Room W w1 B ge c cs0 F n L)
  case first =>
    by_cases hl : len = n
    · have hs : W.heap.size ≤ 0 ∨ 0 < W.heap.size := by omega
      have hle : len < 1099511627776 := by omega
      subst hl
      obtain ⟨i0, hi, hz0, hz1, hz2⟩ := info_parts info36
      go_wp2_with fail
      refine wp_loop_rounds 2 ?_; rw [rounds_succ]
      go_wp2_with (at_builtin; refine wpList_append_own_at _ rfl (.tmp 22) (.tmp 23) 81 rfl B 36 i0 (.slice none 0 0) 1 24 Try.underlying81 hi hz0 hz1 hz2 rfl (by decide) _ _ _ rfl (pw_own_below TT.out.own (below_alloc (Below.refl _ _) _)) ⟨W.heap.size, 0, none⟩ 1 1 [.slice none 0 0] rfl rfl ?h1 ?h2 ?h3 ?h4 ?h5 ?_; (case h1 => exact cell_one_new _ _ _); (case h2 => intro u hu; simp at hu; subst hu; rfl); (case h3 => unfold maxLen; omega); (case h4 => omega); (case h5 => simp; omega); intro v1 w1 hown hgr _ hat; have HROOM := Lib.hid (room_append (c := c) (L := L) (br := br) HG.out TT.out hFg hown hgr hat); have HG1 := Aside0.mk hgr; have HOW := Aside0.mk hown; have hv1 := own_slice hown; have hgeA : (Value.slice A0 len cap).ownBlock ≠ some ge := (fun e => hFg (TT.out.fo ge e)); have hg1 : w1.heap[ge]? = some (.cells cs0 85 (0, 0)) := ((hgr.block ge (by have := blk_lt HG.out; simp; omega) (fun e => hgeA e.symm)).trans (Below.heap_alloc W _ ge (blk_lt HG.out))).trans HG.out; have f1 := blk_frozen hg1 c; have c1 := (blk_cell hg1 c).trans HCV.out; clear hown hgr hat hg1 hgeA; obtain ⟨A1, cap1, rfl⟩ := hv1)
      rw [rounds_succ]
      go_wp2_with fail
      go_meet
      exact HROOM.out
    · have hlt : n < len := by omega
      have hfin : Room W W B ge c cs0 F n L := ⟨rfl, rfl, rfl, Nat.le_refl _, fun _ _ _ _ => rfl, _, F, len, cs, br, by rw [set_same HCV.out]; exact HG.out, TT.out, hlt, fun _ h => Or.inl h, hFg⟩
      have HF := Lib.hid hfin
      clear hfin
      go_wp2_with fail
      refine wp_loop_rounds 1 ?_; rw [rounds_succ]
      go_wp2_with fail
      go_meet
      exact HF.out
  case rest =>
    obtain ⟨v1, F1, len1, cs1, br1, hg1, T1, hlt, hF1, hFg1⟩ := hcut.ex
    obtain ⟨bo, cap1, cur, rfl, hB, hh, hlc, hcm, hcs, ht⟩ := T1.outer (by omega)
    have hnil : cs1[n]? = some (.slice none 0 0) := T1.nil_ n (Nat.le_refl _) hlt
    have hcl : c < cs0.size := (Array.getElem?_eq_some_iff.1 HCV.out).1
    have c1 : wc.cell? ⟨ge, c, none⟩ = some (.slice (some ⟨bo, 0, none⟩) len1 cap1) := (blk_cell hg1 c).trans (by rw [Array.getElem?_setIfInBounds, if_pos rfl, if_pos hcl])
    have c2 : wc.cell? ⟨bo, n, none⟩ = some (.slice none 0 0) := (blk_cell hh n).trans (take_get ht hnil)
    have f2 := blk_frozen hh n
    have ca1 : ∀ o, (wc.alloc o).cell? ⟨ge, c, none⟩ = some (.slice (some ⟨bo, 0, none⟩) len1 cap1) := fun o => Lib.cell?_alloc_some o c1
    have ca2 : ∀ o, (wc.alloc o).cell? ⟨bo, n, none⟩ = some (.slice none 0 0) := fun o => Lib.cell?_alloc_some o c2
    have fa2 : ∀ o, (wc.alloc o).frozen? ⟨bo, n, none⟩ = false := fun o => blk_frozen ((Below.heap_alloc wc o bo (blk_lt hh)).trans hh) n
    have hlm1 : len1 ≤ 9223372036854775807 := by unfold maxLen at hcm; omega
    have k1 : k ≤ n := by omega
    have k2 : -(n : Int) ≤ k := by omega
    have hq : ((n : Int) + k) / 2 = (j : Int) := by omega
    have hj2 : (j : Int) < n + 1 := by omega
    have hne := fun W' => Lib.run_eql_slice_nil (P := Try.prog) W' 36 3 none 0 0 0 0 Try.underlying36
    have hmk : ∀ W' : World, (Instr.makeSlice 36 (.int .i64 ((n : Int) + 1)) (.int .i64 ((n : Int) + 1))).run Try.prog W' = .ok (.slice (some ⟨W'.heap.size, 0, none⟩) (n + 1) (n + 1)) (W'.alloc (.cells (madeCells #[.int .i64 0] (n + 1)) 3)) := print_make_of (P := Try.prog) 36 3 (.int .i64 0) 8 rfl (by kernel_rfl) rfl (by decide) (n + 1) (by omega)
    have hrs := fun W2 h => room_set hcut hBW hg1 T1 hlt hF1 hFg1 hB hh hlc hcm hcs ht j hjD x W2 h
    have HRS := Aside0.mk hrs
    have HJ := Lib.hid hj
    have HCC := Aside0.mk hcut
    clear hg1 T1 hcut hh hj ht hrs hcs
    go_wp2_with fail
    go_region
    generalize hW2 : World.drew _ = W2
    obtain ⟨hfin, d1, d2, d3, d4⟩ := HRS.out W2 hW2.symm
    rw [c1] at d1
    have HF := Aside0.mk hfin
    clear hfin c1 c2 ca1 ca2 fa2 f2 hW2 hmk
    go_wp2_with fail
    go_end0
    exact ⟨rfl, HF.out⟩
end Go.Proofs.Ytonajgipkpnpoaa.Gr
