/- label.get and label.set. The state of an edit graph, and the small methods of the road from the end. append of a row, which may be nothing, onto a row of one's own. -/
import Derived.Test.YtonajgipkpnpoaaGreatDoorC10
import Derived.Deep.LoopGhost
import Derived.Deep.QuietTactic
import Derived.BigQuiet
import Derived.RegionTactic
import Derived.BigRegion
import Derived.StillTailTactics
import Derived.WalkSpells
import Derived.WalkLawsBesides
import Derived.IntWalk
import Derived.Deep.CutBlock
import Derived.Deep.DeepCutAuto
import Derived.Maps.AppendAt
import Derived.Outline
import Derived.Test.YtonajgipkpnpoaaGreatDoorC00
import Derived.Deep.RegionHeld3
import Derived.Deep.AppendLies
import Derived.Laws.OwnMore
namespace Go.Proofs.YtonajgipkpnpoaaGreatDoor.Gr
open Go.RowKit Go.Proofs.YtonajgipkpnpoaaGreatDoorW.PrintWords
set_option maxRecDepth 100000 in
theorem label_get (W : World) (B ge c : Nat) (F : Nat → Prop) (v : Value) (n : Nat) (L : Nat → Nat → Int) (hc : W.cell? ⟨ge, c, none⟩ = some v) (hT : Tri W B F v n L) (D j : Nat) (k : Int) (hD : D < n) (hj : (D : Int) + k = 2 * j) (hjD : j ≤ D) (hn : D < 1099511627776) :
    Calls Tryz.prog 97 #[.pointer (some ⟨ge, c, none⟩), .int .i64 D, .int .i64 k] W fun e w' => e = .returned (.int .i64 (L D j)) ∧ W = w' := by
  obtain ⟨len, cs, br, T⟩ := hT
  obtain ⟨bo, cap, cur, rfl, hB, hh, hlc, hcm, hcs, ht⟩ := T.outer (by have := T.nl; omega)
  have hr := T.row D hD
  have c1 : W.cell? ⟨bo, D, none⟩ = some (.slice (some ⟨br D, 0, none⟩) (D + 1) (D + 1)) := (blk_cell hh D).trans (take_get ht hr.2.2.1)
  have c2 : W.cell? ⟨br D, j, none⟩ = some (.int .i64 (L D j)) := (blk_cell hr.2.2.2 j).trans (rowOf_get L D j hjD)
  have hlen : D < len := by have := T.nl; omega
  have hlm : len ≤ 9223372036854775807 := by unfold maxLen at hcm; omega
  have k1 : k ≤ D := by omega
  have k2 : -(D : Int) ≤ k := by omega
  have hq : ((D : Int) + k) / 2 = (j : Int) := by omega
  have hj2 : (j : Int) < D + 1 := by omega
  have HJ := Lib.hid hj
  clear hj T hr hh ht hcs
  go_enter Tryz.func97, Tryz.ntmps97
  go_wp2
  go_ret
  exact ⟨rfl, rfl⟩
set_option maxRecDepth 100000 in
theorem label_set_old (W : World) (B ge c : Nat) (cs0 : Array Value) (F : Nat → Prop) (v : Value) (n : Nat) (L : Nat → Nat → Int) (hg : W.heap[ge]? = some (.cells cs0 139 (0, 0))) (hcv : cs0[c]? = some v) (hT : Tri W B F v n L) (hFg : ¬ F ge) (_hBg : B ≤ ge)
    (D j : Nat) (k x : Int) (hD : D < n) (hj : (D : Int) + k = 2 * j) (hjD : j ≤ D) (hn : D < 1099511627776) :
    Calls Tryz.prog 96 #[.pointer (some ⟨ge, c, none⟩), .int .i64 D, .int .i64 k, .int .i64 x] W fun e w' => e = .returned (.tuple #[]) ∧ SetPost W B ge c cs0 F n L D j x w' := by
  obtain ⟨len, cs, br, T⟩ := hT
  obtain ⟨bo, cap, cur, rfl, hB, hh, hlc, hcm, hcs, ht⟩ := T.outer (by have := T.nl; omega)
  have hr := T.row D hD
  have c0 : W.cell? ⟨ge, c, none⟩ = some (.slice (some ⟨bo, 0, none⟩) len cap) := (blk_cell hg c).trans hcv
  have c1 : W.cell? ⟨bo, D, none⟩ = some (.slice (some ⟨br D, 0, none⟩) (D + 1) (D + 1)) := (blk_cell hh D).trans (take_get ht hr.2.2.1)
  have c2 : W.cell? ⟨br D, j, none⟩ = some (.int .i64 (L D j)) := (blk_cell hr.2.2.2 j).trans (rowOf_get L D j hjD)
  have f2 := blk_frozen hr.2.2.2 j
  have hlen : D < len := by have := T.nl; omega
  have hlm : len ≤ 9223372036854775807 := by unfold maxLen at hcm; omega
  have k1 : k ≤ D := by omega
  have k2 : -(D : Int) ≤ k := by omega
  have hq : ((D : Int) + k) / 2 = (j : Int) := by omega
  have hj2 : (j : Int) < D + 1 := by omega
  have HJ := Lib.hid hj
  have hne := fun W' => Lib.run_eql_slice_nil (P := Tryz.prog) W' 40 3 (some ⟨br D, 0, none⟩) (D + 1) (D + 1) 0 0 Tryz.underlying40
  have hfin : SetPost W B ge c cs0 F n L D j x (W.setCell ⟨br D, j, none⟩ (.int .i64 x)) := by
    have hbg : ge ≠ br D := fun e => hFg (by rw [e]; exact hr.1)
    refine ⟨rfl, rfl, rfl, by simp [World.setCell], fun q _ _ hF => Below.heap_setCell W _ _ q (fun e => hF (by rw [e]; exact hr.1)), .slice (some ⟨bo, 0, none⟩) len cap, F, setL L D j x, ?_, ⟨len, cs, br, ?_⟩, fun k hk => Or.inl hk, hFg, by simp [setL], fun d i _ h => by simp only [setL]; rw [if_neg h]⟩
    · rw [Below.heap_setCell _ _ _ _ hbg, hg]
      congr 2
      apply Array.ext_getElem?
      intro i
      rw [Array.getElem?_setIfInBounds]
      by_cases e : c = i
      · subst e
        have hcl : c < cs0.size := (Array.getElem?_eq_some_iff.1 hcv).1
        rw [if_pos rfl, if_pos hcl, hcv]
      · rw [if_neg e]
    · rw [if_pos hD]
      refine ⟨own_move T.own (fun q hq => Below.heap_setCell W _ _ q (fun e => hr.2.1 (by rw [hq, e]))), T.fo, T.nl, T.nil_, fun d hd => ?_, T.inj, fun q hq => ⟨(T.lo q hq).1, by simpa [World.setCell] using (T.lo q hq).2⟩⟩
      have hrd := T.row d hd
      refine ⟨hrd.1, hrd.2.1, hrd.2.2.1, ?_⟩
      by_cases e : d = D
      · subst e
        rw [blk_set hrd.2.2.2, rowOf_set]
      · rw [Below.heap_setCell _ _ _ _ (fun h => e (T.inj d D hd hD h)), rowOf_other _ _ _ _ _ e]
        exact hrd.2.2.2
  have HF := Lib.hid hfin
  clear hj T hr hh ht hcs hfin hg hcv hB
  go_enter Tryz.func96, Tryz.ntmps96
  go_wp2
  refine wp_loop_rounds 1 ?_; rw [rounds_succ]
  go_wp2
  go_end0
  exact ⟨rfl, HF.out⟩
structure Room (W0 W : World) (B ge c : Nat) (cs0 : Array Value) (F : Nat → Prop) (n : Nat) (L : Nat → Nat → Int) : Prop where
  os : W.os = W0.os
  tape : W.tape = W0.tape
  output : W.output = W0.output
  size : W0.heap.size ≤ W.heap.size
  keep : ∀ k, k < W0.heap.size → k ≠ ge → ¬ F k → W.heap[k]? = W0.heap[k]?
  ex : ∃ v F' len cs br, W.heap[ge]? = some (.cells (cs0.setIfInBounds c v) 139 (0, 0)) ∧ TriD W B F' v n L len cs br ∧ n < len ∧ (∀ k, F' k → F k ∨ W0.heap.size ≤ k) ∧ ¬ F' ge
theorem set_same {cs : Array Value} {c : Nat} {v : Value} (h : cs[c]? = some v) : cs.setIfInBounds c v = cs := by
  apply Array.ext_getElem?
  intro i
  rw [Array.getElem?_setIfInBounds]
  by_cases e : c = i
  · subst e
    rw [if_pos rfl, if_pos (Array.getElem?_eq_some_iff.1 h).1, h]
  · rw [if_neg e]
theorem info36 : (Tryz.prog.info? 40).map (fun i => (i.zero, i.size, i.bytes)) = some (some (.slice none 0 0), 1, 24) := by kernel_rfl
theorem room_append {W w1 : World} {B ge c : Nat} {cs0 : Array Value} {F : Nat → Prop} {n cap : Nat} {A0 : Option Addr} {L : Nat → Nat → Int} {cs : List Value} {br : Nat → Nat} {v1 : Value} {o : Obj}
    (hg : W.heap[ge]? = some (.cells cs0 139 (0, 0))) (hT : TriD W B F (.slice A0 n cap) n L n cs br) (hFg : ¬ F ge)
    (hown : w1.ownsRow B 40 1 v1 (n + 1) (cs ++ [.slice none 0 0])) (hgr : (W.alloc o).grownBy w1 (Value.slice A0 n cap).ownBlock)
    (hat : v1.ownBlock = (Value.slice A0 n cap).ownBlock ∨ v1.ownBlock = some (W.alloc o).heap.size) : Room W (w1.setCell ⟨ge, c, none⟩ v1) B ge c cs0 F n L := by
  have hgl : ge < W.heap.size := blk_lt hg
  have hal : (W.alloc o).heap.size = W.heap.size + 1 := by simp
  have hs := hgr.size
  have hk0 : ∀ k, k < W.heap.size → (Value.slice A0 n cap).ownBlock ≠ some k → w1.heap[k]? = W.heap[k]? := fun k hk hne => (hgr.block k (by omega) (fun e => hne e.symm)).trans (Below.heap_alloc W o k hk)
  have hgne : (Value.slice A0 n cap).ownBlock ≠ some ge := fun e => hFg (hT.fo ge e)
  have hg1 : w1.heap[ge]? = some (.cells cs0 139 (0, 0)) := (hk0 ge hgl hgne).trans hg
  have hv1ge : v1.ownBlock ≠ some ge := by
    rcases hat with h | h
    · rw [h]; exact hgne
    · rw [h]; intro e; injection e with e; omega
  have hbr : ∀ D, D < n → v1.ownBlock ≠ some (br D) := fun D hD => by
    have hr := hT.row D hD
    rcases hat with h | h
    · rw [h]; exact hr.2.1
    · rw [h]; intro e; injection e with e
      have := (hT.lo _ hr.1).2; omega
  have hcl : cs.length = n := by have := hT.own.1; simpa using this
  refine ⟨hgr.os, hgr.tape, hgr.output, by simp [World.setCell]; omega, fun k hk hne hF => ?_, v1, (fun k => F k ∨ v1.ownBlock = some k), n + 1, cs ++ [.slice none 0 0], br, blk_set hg1 c v1, ?_, by omega, fun k hk => ?_, fun h => h.elim hFg (fun h => hv1ge h)⟩
  · rw [Below.heap_setCell _ _ _ _ hne]
    exact hk0 k hk (fun e => hF (hT.fo k e))
  · refine ⟨own_move hown (fun k hk => Below.heap_setCell _ _ _ _ (fun e => hv1ge (by rw [hk, e]))), fun k hk => Or.inr hk, by omega, fun D h1 h2 => ?_, fun D hD => ?_, hT.inj, fun k hk => ?_⟩
    · obtain rfl : D = n := by omega
      rw [List.getElem?_append_right (by omega), hcl]; simp
    · have hr := hT.row D hD
      have hl := (hT.lo _ hr.1).2
      refine ⟨Or.inl hr.1, hbr D hD, ?_, ?_⟩
      · rw [List.getElem?_append_left (by omega)]; exact hr.2.2.1
      · rw [Below.heap_setCell _ _ _ _ (fun e => hFg (by have := hr.1; rwa [show br D = ge from e] at this))]
        exact (hk0 _ hl hr.2.1).trans hr.2.2.2
    · have hsz : (w1.setCell ⟨ge, c, none⟩ v1).heap.size = w1.heap.size := by simp [World.setCell]
      rcases hk with hk | hk
      · have := hT.lo k hk; omega
      · exact ⟨own_base hown k hk, by rw [hsz]; exact own_lt hown k hk⟩
  · rcases hk with hk | hk
    · exact Or.inl hk
    · rcases hat with h | h
      · exact Or.inl (hT.fo k (h.symm.trans hk))
      · right; rw [h] at hk; injection hk with hk; omega
theorem made0 (L : Nat → Nat → Int) (n : Nat) : madeCells #[.int .i64 0] (n + 1) = rowOf (fun d i => if d = n then 0 else L d i) n := by
  apply Array.ext'
  rw [toList_madeCells_one]
  simp only [rowOf, if_pos]
  apply List.ext_getElem
  · simp
  · intro i h1 h2
    simp
theorem room_set {W wc : World} {B ge c : Nat} {cs0 : Array Value} {F F1 : Nat → Prop} {n len1 cap1 bo : Nat} {L : Nat → Nat → Int} {cs1 : List Value} {br1 : Nat → Nat} {cur : Array Value}
    (hR : Room W wc B ge c cs0 F n L) (hBW : B ≤ W.heap.size) (hg1 : wc.heap[ge]? = some (.cells (cs0.setIfInBounds c (.slice (some ⟨bo, 0, none⟩) len1 cap1)) 139 (0, 0)))
    (T1 : TriD wc B F1 (.slice (some ⟨bo, 0, none⟩) len1 cap1) n L len1 cs1 br1) (hlt : n < len1) (hF1 : ∀ k, F1 k → F k ∨ W.heap.size ≤ k) (hFg1 : ¬ F1 ge)
    (hB : B ≤ bo) (hh : wc.heap[bo]? = some (.cells cur 40 (0, 0))) (hlc : len1 ≤ cap1) (hcm : cap1 ≤ maxLen) (hcs : cur.size = cap1) (ht : cur.toList.take len1 = cs1) (j : Nat) (hj : j ≤ n) (x : Int) (W2 : World)
    (hW2 : W2 = ((wc.alloc (.cells (madeCells #[.int .i64 0] (n + 1)) 3)).setCell ⟨bo, n, none⟩ (.slice (some ⟨wc.heap.size, 0, none⟩) (n + 1) (n + 1))).drew) :
    SetPost W B ge c cs0 F n L n j x (W2.setCell ⟨wc.heap.size, j, none⟩ (.int .i64 x)) ∧ W2.cell? ⟨ge, c, none⟩ = wc.cell? ⟨ge, c, none⟩ ∧ W2.cell? ⟨bo, n, none⟩ = some (.slice (some ⟨wc.heap.size, 0, none⟩) (n + 1) (n + 1)) ∧
      W2.cell? ⟨wc.heap.size, j, none⟩ = some (.int .i64 0) ∧ W2.frozen? ⟨wc.heap.size, j, none⟩ = false := by
  have hbl : bo < wc.heap.size := blk_lt hh
  have hgl : ge < wc.heap.size := blk_lt hg1
  have hgb : ge ≠ bo := fun e => hFg1 (T1.fo ge (by rw [e]; rfl))
  have hsz : W2.heap.size = wc.heap.size + 1 := by subst hW2; simp [World.setCell, World.drew]
  have hd : ∀ w : World, w.drew.heap = w.heap := fun _ => rfl
  have hk2 : ∀ k, k < wc.heap.size → k ≠ bo → W2.heap[k]? = wc.heap[k]? := fun k hk hne => by
    subst hW2
    rw [hd, Below.heap_setCell _ _ _ _ hne]
    exact Below.heap_alloc wc _ k hk
  have hn2 : W2.heap[wc.heap.size]? = some (.cells (rowOf (fun d i => if d = n then 0 else L d i) n) 3 (0, 0)) := by
    subst hW2
    rw [hd, Below.heap_setCell _ _ _ _ (show wc.heap.size ≠ bo by omega), show (wc.alloc (.cells (madeCells #[.int .i64 0] (n + 1)) 3)).heap[wc.heap.size]? = some (.cells (madeCells #[.int .i64 0] (n + 1)) 3 (0, 0)) from by rw [show (wc.alloc (.cells (madeCells #[.int .i64 0] (n + 1)) 3)).heap = wc.heap.push (.cells (madeCells #[.int .i64 0] (n + 1)) 3) from rfl]; simp, made0 L]
  have hb2 : W2.heap[bo]? = some (.cells (cur.setIfInBounds n (.slice (some ⟨wc.heap.size, 0, none⟩) (n + 1) (n + 1))) 40 (0, 0)) := by
    subst hW2
    rw [hd]
    exact blk_set ((Below.heap_alloc wc _ bo hbl).trans hh) n _
  have hws : W.heap.size ≤ wc.heap.size := hR.size
  have hFbo : F1 bo := T1.fo bo rfl
  refine ⟨⟨by subst hW2; exact hR.os, by subst hW2; exact hR.tape, by subst hW2; exact hR.output, by simp [World.setCell]; omega, fun k hk hne hF => ?_, .slice (some ⟨bo, 0, none⟩) len1 cap1, (fun k => F1 k ∨ k = wc.heap.size), setL (fun d i => if d = n then 0 else L d i) n j x, ?_, ?_, fun k hk => ?_, fun h => h.elim hFg1 (fun h => by omega), by simp [setL], fun d i hd h => ?_⟩, ?_, ?_, ?_, ?_⟩
  · have hne2 : k ≠ bo := fun e => by
      rcases hF1 bo hFbo with h | h
      · exact hF (by rw [e]; exact h)
      · omega
    rw [Below.heap_setCell _ _ _ _ (show k ≠ wc.heap.size by omega), hk2 k (by omega) hne2]
    exact hR.keep k hk hne hF
  · rw [Below.heap_setCell _ _ _ _ (show ge ≠ wc.heap.size by omega), hk2 ge hgl hgb]
    exact hg1
  · rw [if_neg (Nat.lt_irrefl n)]
    refine ⟨len1, cs1.set n (.slice (some ⟨wc.heap.size, 0, none⟩) (n + 1) (n + 1)), (fun D => if D = n then wc.heap.size else br1 D), ?_⟩
    have hl1 : cs1.length = len1 := by have := T1.own.1; simpa using this
    refine ⟨⟨by simpa using hl1, Or.inr ⟨bo, cap1, _, rfl, hB, (Below.heap_setCell _ _ _ _ (show bo ≠ wc.heap.size by omega)).trans hb2, hlc, hcm, by simpa using hcs, ?_⟩⟩, fun k hk => Or.inl (T1.fo k hk), by omega, fun D h1 h2 => ?_, fun D hD => ?_, fun D D' hD hD' e => ?_, fun k hk => ?_⟩
    · rw [Array.toList_setIfInBounds, Nat.mul_one, List.take_set, ht]
    · rw [List.getElem?_set_ne (by omega)]
      exact T1.nil_ D (by omega) h2
    · by_cases e : D = n
      · subst e
        rw [if_pos rfl]
        refine ⟨Or.inr rfl, fun h => by injection h with h; simp at h; omega, ?_, ?_⟩
        · rw [List.getElem?_set_self (by omega)]
        · rw [blk_set hn2, rowOf_set]
      · have hr := T1.row D (by omega)
        have hb1 := (T1.lo _ hr.1).2
        rw [if_neg e]
        refine ⟨Or.inl hr.1, hr.2.1, ?_, ?_⟩
        · rw [List.getElem?_set_ne (by omega)]; exact hr.2.2.1
        · rw [Below.heap_setCell _ _ _ _ (show br1 D ≠ wc.heap.size by omega), hk2 _ hb1 (fun h => hr.2.1 (by rw [h]; rfl)), rowOf_other _ _ _ _ _ e]
          have : rowOf (fun d i => if d = n then 0 else L d i) D = rowOf L D := by unfold rowOf; simp [e]
          rw [this]
          exact hr.2.2.2
    · have hlo : ∀ d, d < n → br1 d < wc.heap.size := fun d hd => (T1.lo _ (T1.row d hd).1).2
      by_cases e1 : D = n <;> by_cases e2 : D' = n
      · omega
      · have := hlo D' (by omega); simp [e1, e2] at e; omega
      · have := hlo D (by omega); simp [e1, e2] at e; omega
      · simp only [e1, e2, if_false] at e
        exact T1.inj D D' (by omega) (by omega) e
    · have hs2 : (W2.setCell ⟨wc.heap.size, j, none⟩ (.int .i64 x)).heap.size = W2.heap.size := by simp [World.setCell]
      rw [hs2, hsz]
      rcases hk with hk | hk
      · have := T1.lo k hk; omega
      · omega
  · rcases hk with hk | hk
    · exact hF1 k hk
    · right; omega
  · simp only [setL]
    rw [if_neg (by omega), if_neg (by omega)]
  · rw [blk_cell hg1, blk_cell ((hk2 ge hgl hgb).trans hg1)]
  · rw [blk_cell hb2, Array.getElem?_setIfInBounds, if_pos rfl, if_pos (by omega)]
  · rw [blk_cell hn2, rowOf_get _ _ _ hj, if_pos rfl]
  · exact blk_frozen hn2 j
set_option maxRecDepth 100000 in
theorem label_set_new (W : World) (B ge c : Nat) (cs0 : Array Value) (F : Nat → Prop) (v : Value) (n : Nat) (L : Nat → Nat → Int) (hg : W.heap[ge]? = some (.cells cs0 139 (0, 0))) (hcv : cs0[c]? = some v) (hT : Tri W B F v n L) (hFg : ¬ F ge) (hBW : B ≤ W.heap.size)
    (j : Nat) (k x : Int) (hj : (n : Int) + k = 2 * j) (hjD : j ≤ n) (hn : n < 1099511627776) :
    Calls Tryz.prog 96 #[.pointer (some ⟨ge, c, none⟩), .int .i64 n, .int .i64 k, .int .i64 x] W fun e w' => e = .returned (.tuple #[]) ∧ SetPost W B ge c cs0 F n L n j x w' := by
  obtain ⟨len, cs, br, T⟩ := hT
  obtain ⟨A0, cap, rfl⟩ := own_slice T.own
  have c0 : W.cell? ⟨ge, c, none⟩ = some (.slice A0 len cap) := (blk_cell hg c).trans hcv
  have hlm : len ≤ 9223372036854775807 := by
    rcases T.own.2 with ⟨_, hz⟩ | ⟨g, cap, cur, hv, hgb, hheap, hncap, hcapm, hcsz, htake⟩
    · omega
    · unfold maxLen at hcapm; omega
  have TT := Aside0.mk T
  have HG := Aside0.mk hg
  have HCV := Lib.hid hcv
  have hnl := T.nl
  clear T hg hcv
  go_enter Tryz.func96, Tryz.ntmps96
  go_upto_block 0 with fail
  go_cut [] from 11 to 26 (fun w1 => Room W w1 B ge c cs0 F n L)
  case first =>
    by_cases hl : len = n
    · have hs : W.heap.size ≤ 0 ∨ 0 < W.heap.size := by omega
      have hle : len < 1099511627776 := by omega
      subst hl
      obtain ⟨i0, hi, hz0, hz1, hz2⟩ := info_parts info36
      go_wp2_with fail
      refine wp_loop_rounds 2 ?_; rw [rounds_succ]
      go_wp2_with (at_builtin; refine wpList_append_own_at _ rfl (.tmp 22) (.tmp 23) 134 rfl B 40 i0 (.slice none 0 0) 1 24 Tryz.underlying134 hi hz0 hz1 hz2 rfl (by decide) _ _ _ rfl (pw_own_below TT.out.own (below_alloc (Below.refl _ _) _)) ⟨W.heap.size, 0, none⟩ 1 1 [.slice none 0 0] rfl rfl ?h1 ?h2 ?h3 ?h4 ?h5 ?_; (case h1 => exact cell_one_new _ _ _); (case h2 => intro u hu; simp at hu; subst hu; rfl); (case h3 => unfold maxLen; omega); (case h4 => omega); (case h5 => simp; omega); intro v1 w1 hown hgr _ hat; have HROOM := Lib.hid (room_append (c := c) (L := L) (br := br) HG.out TT.out hFg hown hgr hat); have HG1 := Aside0.mk hgr; have HOW := Aside0.mk hown; have hv1 := own_slice hown; have hgeA : (Value.slice A0 len cap).ownBlock ≠ some ge := (fun e => hFg (TT.out.fo ge e)); have hg1 : w1.heap[ge]? = some (.cells cs0 139 (0, 0)) := ((hgr.block ge (by have := blk_lt HG.out; simp; omega) (fun e => hgeA e.symm)).trans (Below.heap_alloc W _ ge (blk_lt HG.out))).trans HG.out; have f1 := blk_frozen hg1 c; have c1 := (blk_cell hg1 c).trans HCV.out; clear hown hgr hat hg1 hgeA; obtain ⟨A1, cap1, rfl⟩ := hv1)
      rw [rounds_succ]
      go_wp2_with fail
      go_meet
      exact HROOM.out
    · have hlt : n < len := by omega
      have hfin : Room W W B ge c cs0 F n L := ⟨rfl, rfl, rfl, Nat.le_refl _, fun _ _ _ _ => rfl, _, F, len, cs, br, by rw [set_same HCV.out]; exact HG.out, TT.out, hlt, fun _ h => Or.inl h, hFg⟩
      have HF := Lib.hid hfin
      clear hfin
      go_wp2_with fail
      refine wp_loop_rounds 1 ?_; rw [rounds_succ]
      go_wp2_with fail
      go_meet
      exact HF.out
  case rest =>
    obtain ⟨v1, F1, len1, cs1, br1, hg1, T1, hlt, hF1, hFg1⟩ := hcut.ex
    obtain ⟨bo, cap1, cur, rfl, hB, hh, hlc, hcm, hcs, ht⟩ := T1.outer (by omega)
    have hnil : cs1[n]? = some (.slice none 0 0) := T1.nil_ n (Nat.le_refl _) hlt
    have hcl : c < cs0.size := (Array.getElem?_eq_some_iff.1 HCV.out).1
    have c1 : wc.cell? ⟨ge, c, none⟩ = some (.slice (some ⟨bo, 0, none⟩) len1 cap1) := (blk_cell hg1 c).trans (by rw [Array.getElem?_setIfInBounds, if_pos rfl, if_pos hcl])
    have c2 : wc.cell? ⟨bo, n, none⟩ = some (.slice none 0 0) := (blk_cell hh n).trans (take_get ht hnil)
    have f2 := blk_frozen hh n
    have ca1 : ∀ o, (wc.alloc o).cell? ⟨ge, c, none⟩ = some (.slice (some ⟨bo, 0, none⟩) len1 cap1) := fun o => Lib.cell?_alloc_some o c1
    have ca2 : ∀ o, (wc.alloc o).cell? ⟨bo, n, none⟩ = some (.slice none 0 0) := fun o => Lib.cell?_alloc_some o c2
    have fa2 : ∀ o, (wc.alloc o).frozen? ⟨bo, n, none⟩ = false := fun o => blk_frozen ((Below.heap_alloc wc o bo (blk_lt hh)).trans hh) n
    have hlm1 : len1 ≤ 9223372036854775807 := by unfold maxLen at hcm; omega
    have k1 : k ≤ n := by omega
    have k2 : -(n : Int) ≤ k := by omega
    have hq : ((n : Int) + k) / 2 = (j : Int) := by omega
    have hj2 : (j : Int) < n + 1 := by omega
    have hne := fun W' => Lib.run_eql_slice_nil (P := Tryz.prog) W' 40 3 none 0 0 0 0 Tryz.underlying40
    have hmk : ∀ W' : World, (Instr.makeSlice 40 (.int .i64 ((n : Int) + 1)) (.int .i64 ((n : Int) + 1))).run Tryz.prog W' = .ok (.slice (some ⟨W'.heap.size, 0, none⟩) (n + 1) (n + 1)) (W'.alloc (.cells (madeCells #[.int .i64 0] (n + 1)) 3)) := print_make_of (P := Tryz.prog) 40 3 (.int .i64 0) 8 rfl (by kernel_rfl) rfl (by decide) (n + 1) (by omega)
    have hrs := fun W2 h => room_set hcut hBW hg1 T1 hlt hF1 hFg1 hB hh hlc hcm hcs ht j hjD x W2 h
    have HRS := Aside0.mk hrs
    have HJ := Lib.hid hj
    have HCC := Aside0.mk hcut
    clear hg1 T1 hcut hh hj ht hrs hcs
    go_wp2_with fail
    go_region
    generalize hW2 : World.drew _ = W2
    obtain ⟨hfin, d1, d2, d3, d4⟩ := HRS.out W2 hW2.symm
    rw [c1] at d1
    have HF := Aside0.mk hfin
    clear hfin c1 c2 ca1 ca2 fa2 f2 hW2 hmk
    go_wp2_with fail
    go_end0
    exact ⟨rfl, HF.out⟩
end Go.Proofs.YtonajgipkpnpoaaGreatDoor.Gr
namespace Go.Proofs.YtonajgipkpnpoaaGreatDoor.Gr
open Go.RowKit Go.Proofs.YtonajgipkpnpoaaGreatDoorW.PrintWords Go.Myers
structure Step (W W' : World) (F F' : Nat → Prop) : Prop where
  os : W'.os = W.os
  tape : W'.tape = W.tape
  output : W'.output = W.output
  size : W.heap.size ≤ W'.heap.size
  keep : ∀ k, k < W.heap.size → ¬ F k → W'.heap[k]? = W.heap[k]?
  new : ∀ k, F' k → F k ∨ W.heap.size ≤ k
theorem Step.refl (W : World) (F : Nat → Prop) : Step W W F F := ⟨rfl, rfl, rfl, Nat.le_refl _, fun _ _ _ => rfl, fun _ h => Or.inl h⟩
theorem Step.trans {W W1 W2 : World} {F F1 F2 : Nat → Prop} (h : Step W W1 F F1) (h' : Step W1 W2 F1 F2) : Step W W2 F F2 :=
  ⟨h'.os.trans h.os, h'.tape.trans h.tape, h'.output.trans h.output, Nat.le_trans h.size h'.size, fun k hk hF => (h'.keep k (Nat.lt_of_lt_of_le hk h.size) (fun hf => (h.new k hf).elim hF (fun e => by omega))).trans (h.keep k hk hF), fun k hk => (h'.new k hk).elim (fun h1 => h.new k h1) (fun h1 => Or.inr (Nat.le_trans h.size h1))⟩
theorem Step.of_below {W W' : World} {F : Nat → Prop} (h : Below W.heap.size W W') : Step W W' F F := ⟨h.os, h.tape, h.output, h.size, fun k hk _ => h.block k hk, fun _ h => Or.inl h⟩
theorem Step.below {W W' : World} {F F' : Nat → Prop} (h : Step W W' F F') {B : Nat} (hB : ∀ k, F k → B ≤ k) (hs : B ≤ W.heap.size) : Below B W W' :=
  ⟨h.os, h.tape, h.output, h.size, fun k hk => h.keep k (by omega) (fun hf => by have := hB k hf; omega)⟩
def egC (sq vf vb : Value) (lim ux uy dl : Int) : Array Value := #[sq, vf, vb, .int .i64 lim, .int .i64 0, .int .i64 0, .int .i64 ux, .int .i64 uy, .int .i64 dl]
structure EGx (W : World) (B ge : Nat) (sq : Value) (lim ux uy dl : Int) (F : Nat → Prop) (nf : Nat) (Lf : Nat → Nat → Int) (nb : Nat) (Lb : Nat → Nat → Int) (vf vb : Value) (Ff Fb : Nat → Prop) : Prop where
  cells : W.heap[ge]? = some (.cells (egC sq vf vb lim ux uy dl) 139 (0, 0))
  tf : Tri W B Ff vf nf Lf
  tb : Tri W B Fb vb nb Lb
  dis : ∀ k, Ff k → ¬ Fb k
  gf : ¬ Ff ge
  gb : ¬ Fb ge
  F : ∀ k, F k ↔ (Ff k ∨ Fb k ∨ k = ge)
  lo : B ≤ ge
def EG (W : World) (B ge : Nat) (sq : Value) (lim ux uy dl : Int) (F : Nat → Prop) (nf : Nat) (Lf : Nat → Nat → Int) (nb : Nat) (Lb : Nat → Nat → Int) : Prop :=
  ∃ vf vb Ff Fb, EGx W B ge sq lim ux uy dl F nf Lf nb Lb vf vb Ff Fb
section
variable {W W' : World} {B ge : Nat} {sq : Value} {lim ux uy dl : Int} {F : Nat → Prop} {nf : Nat} {Lf : Nat → Nat → Int} {nb : Nat} {Lb : Nat → Nat → Int}
theorem EG.lo (h : EG W B ge sq lim ux uy dl F nf Lf nb Lb) : ∀ k, F k → B ≤ k := by
  obtain ⟨vf, vb, Ff, Fb, h⟩ := h
  intro k hk
  rcases (h.F k).1 hk with h1 | h1 | h1
  · obtain ⟨_, _, _, t⟩ := h.tf; exact (t.lo k h1).1
  · obtain ⟨_, _, _, t⟩ := h.tb; exact (t.lo k h1).1
  · rw [h1]; exact h.lo
theorem EG.size (h : EG W B ge sq lim ux uy dl F nf Lf nb Lb) : ∀ k, F k → k < W.heap.size := by
  obtain ⟨vf, vb, Ff, Fb, h⟩ := h
  intro k hk
  rcases (h.F k).1 hk with h1 | h1 | h1
  · obtain ⟨_, _, _, t⟩ := h.tf; exact (t.lo k h1).2
  · obtain ⟨_, _, _, t⟩ := h.tb; exact (t.lo k h1).2
  · rw [h1]; exact blk_lt h.cells
theorem EG.base (h : EG W B ge sq lim ux uy dl F nf Lf nb Lb) : B ≤ W.heap.size := by
  obtain ⟨vf, vb, Ff, Fb, h⟩ := h
  have := h.lo
  have := blk_lt h.cells
  omega
theorem EG.below (h : EG W B ge sq lim ux uy dl F nf Lf nb Lb) (hb : Below W.heap.size W W') : EG W' B ge sq lim ux uy dl F nf Lf nb Lb := by
  obtain ⟨vf, vb, Ff, Fb, h⟩ := h
  exact ⟨vf, vb, Ff, Fb, (hb.block ge (blk_lt h.cells)).trans h.cells, h.tf.below hb, h.tb.below hb, h.dis, h.gf, h.gb, h.F, h.lo⟩
theorem EG.setb {D j : Nat} {x : Int} {vf vb : Value} {Ff Fb : Nat → Prop} (h : EGx W B ge sq lim ux uy dl F nf Lf nb Lb vf vb Ff Fb) (hp : SetPost W B ge 2 (egC sq vf vb lim ux uy dl) Fb nb Lb D j x W') :
    ∃ F' L', Step W W' F F' ∧ EG W' B ge sq lim ux uy dl F' nf Lf (if D < nb then nb else D + 1) L' ∧ L' D j = x ∧ (∀ d i, d < nb → ¬ (d = D ∧ i = j) → L' d i = Lb d i) := by
  obtain ⟨v', F', L', hc, ht, hn, hg, h1, h2⟩ := hp.ex
  have hFf : ∀ k, Ff k → k < W.heap.size ∧ k ≠ ge ∧ ¬ Fb k := fun k hk => by
    refine ⟨?_, fun e => h.gf (by rw [← e]; exact hk), h.dis k hk⟩
    obtain ⟨_, _, _, t⟩ := h.tf; exact (t.lo k hk).2
  refine ⟨fun k => Ff k ∨ F' k ∨ k = ge, L', ⟨hp.os, hp.tape, hp.output, hp.size, fun k hk hF => hp.keep k hk (fun e => hF ((h.F k).2 (Or.inr (Or.inr e)))) (fun e => hF ((h.F k).2 (Or.inr (Or.inl e)))), fun k hk => ?_⟩, ⟨vf, v', Ff, F', ?_, ?_, ht, fun k hk hk' => ?_, h.gf, hg, fun k => Iff.rfl, h.lo⟩, h1, h2⟩
  · rcases hk with hk | hk | hk
    · exact Or.inl ((h.F k).2 (Or.inl hk))
    · rcases hn k hk with h3 | h3
      · exact Or.inl ((h.F k).2 (Or.inr (Or.inl h3)))
      · exact Or.inr h3
    · exact Or.inl ((h.F k).2 (Or.inr (Or.inr hk)))
  · exact hc
  · exact h.tf.move hp.size (fun k hk => hp.keep k (hFf k hk).1 (hFf k hk).2.1 (hFf k hk).2.2)
  · rcases hn k hk' with h3 | h3
    · exact (hFf k hk).2.2 h3
    · have := (hFf k hk).1; omega
theorem EG.setf {D j : Nat} {x : Int} {vf vb : Value} {Ff Fb : Nat → Prop} (h : EGx W B ge sq lim ux uy dl F nf Lf nb Lb vf vb Ff Fb) (hp : SetPost W B ge 1 (egC sq vf vb lim ux uy dl) Ff nf Lf D j x W') :
    ∃ F' L', Step W W' F F' ∧ EG W' B ge sq lim ux uy dl F' (if D < nf then nf else D + 1) L' nb Lb ∧ L' D j = x ∧ (∀ d i, d < nf → ¬ (d = D ∧ i = j) → L' d i = Lf d i) := by
  obtain ⟨v', F', L', hc, ht, hn, hg, h1, h2⟩ := hp.ex
  have hFb : ∀ k, Fb k → k < W.heap.size ∧ k ≠ ge ∧ ¬ Ff k := fun k hk => by
    refine ⟨?_, fun e => h.gb (by rw [← e]; exact hk), fun hf => h.dis k hf hk⟩
    obtain ⟨_, _, _, t⟩ := h.tb; exact (t.lo k hk).2
  refine ⟨fun k => F' k ∨ Fb k ∨ k = ge, L', ⟨hp.os, hp.tape, hp.output, hp.size, fun k hk hF => hp.keep k hk (fun e => hF ((h.F k).2 (Or.inr (Or.inr e)))) (fun e => hF ((h.F k).2 (Or.inl e))), fun k hk => ?_⟩, ⟨v', vb, F', Fb, ?_, ht, ?_, fun k hk hk' => ?_, hg, h.gb, fun k => Iff.rfl, h.lo⟩, h1, h2⟩
  · rcases hk with hk | hk | hk
    · rcases hn k hk with h3 | h3
      · exact Or.inl ((h.F k).2 (Or.inl h3))
      · exact Or.inr h3
    · exact Or.inl ((h.F k).2 (Or.inr (Or.inl hk)))
    · exact Or.inl ((h.F k).2 (Or.inr (Or.inr hk)))
  · exact hc
  · exact h.tb.move hp.size (fun k hk => hp.keep k (hFb k hk).1 (hFb k hk).2.1 (hFb k hk).2.2)
  · rcases hn k hk with h3 | h3
    · exact (hFb k hk').2.2 h3
    · have := (hFb k hk').1; omega
end
structure SQx (W : World) (F : Nat → Prop) (ty : Nat) (v : Value) (fl fp fs : Nat) (E : Nat → Nat → Bool) (N M : Nat) : Prop where
  ml : ∀ w, Sem.run Tryz.prog (method 331 ty v "loop.example/pub-g01452/pub/xdiff_lcs.lengths") w = .ok (fl, v) w
  mp : ∀ w, Sem.run Tryz.prog (method 331 ty v "loop.example/pub-g01452/pub/xdiff_lcs.commonPrefixLen") w = .ok (fp, v) w
  ms : ∀ w, Sem.run Tryz.prog (method 331 ty v "loop.example/pub-g01452/pub/xdiff_lcs.commonSuffixLen") w = .ok (fs, v) w
  cl : ∀ args w, Sem.run Tryz.prog (callFunc fl args) w = .ok (.enter fl args) w
  cp : ∀ args w, Sem.run Tryz.prog (callFunc fp args) w = .ok (.enter fp args) w
  cs : ∀ args w, Sem.run Tryz.prog (callFunc fs args) w = .ok (.enter fs args) w
  len : ∀ W' : World, Calls Tryz.prog fl #[v] W' fun e w' => e = .returned (.tuple #[.int .i64 N, .int .i64 M]) ∧ Below W'.heap.size W' w'
  pre : ∀ W' F', Step W W' F F' → ∀ x y X Y : Nat, x < X → X ≤ N → y < Y → Y ≤ M → Calls Tryz.prog fp #[v, .int .i64 x, .int .i64 X, .int .i64 y, .int .i64 Y] W' fun e w' => e = .returned (.int .i64 (suf (mir E X Y) (X - x) (Y - y) : Nat)) ∧ ∃ o q, w' = (W'.alloc o).drewN q
  suf : ∀ W' F', Step W W' F F' → ∀ x y : Nat, 0 < x → x ≤ N → 0 < y → y ≤ M → Calls Tryz.prog fs #[v, .int .i64 0, .int .i64 x, .int .i64 0, .int .i64 y] W' fun e w' => e = .returned (.int .i64 (suf E x y : Nat)) ∧ ∃ o q, w' = (W'.alloc o).drewN q
  hN : N ≤ 1099511627776
  hM : M ≤ 1099511627776
def SQ (W : World) (F : Nat → Prop) (sq : Value) (E : Nat → Nat → Bool) (N M : Nat) : Prop :=
  ∃ ty v fl fp fs, sq = .iface ty v ∧ SQx W F ty v fl fp fs E N M
theorem SQ.step {W W' : World} {F F' : Nat → Prop} {sq : Value} {E : Nat → Nat → Bool} {N M : Nat} (h : SQ W F sq E N M) (hs : Step W W' F F') : SQ W' F' sq E N M := by
  obtain ⟨ty, v, fl, fp, fs, h1, h⟩ := h
  exact ⟨ty, v, fl, fp, fs, h1, h.ml, h.mp, h.ms, h.cl, h.cp, h.cs, h.len, fun W2 F2 h2 => h.pre W2 F2 (hs.trans h2), fun W2 F2 h2 => h.suf W2 F2 (hs.trans h2), h.hN, h.hM⟩
def ix (D : Nat) (k : Int) : Nat := (((D : Int) + k) / 2).toNat
theorem ix_of {D : Nat} {k : Int} (h : valid D k) : (D : Int) + k = 2 * ix D k ∧ ix D k ≤ D := by
  obtain ⟨h1, h2, h3⟩ := h
  unfold ix
  omega
section
variable {W : World} {B ge : Nat} {sq : Value} {lim ux uy dl : Int} {F : Nat → Prop} {nf : Nat} {Lf : Nat → Nat → Int} {nb : Nat} {Lb : Nat → Nat → Int}
set_option maxRecDepth 100000 in
theorem get_back (h : EG W B ge sq lim ux uy dl F nf Lf nb Lb) (D : Nat) (k : Int) (hv : valid D k) (hD : D < nb) (hn : D < 1099511627776) :
    Calls Tryz.prog 82 #[.pointer (some ⟨ge, 0, none⟩), .int .i64 D, .int .i64 k] W fun e w' => e = .returned (.int .i64 (Lb D (ix D k))) ∧ W = w' := by
  obtain ⟨vf, vb, Ff, Fb, h⟩ := h
  have hi := ix_of hv
  have hg := label_get W B ge 2 Fb vb nb Lb ((blk_cell h.cells 2).trans rfl) h.tb D (ix D k) k hD hi.1 hi.2 hn
  clear h hi
  go_enter Tryz.func82, Tryz.ntmps82
  go_wp2_with (go_at_call 97; refine hg.mono ?_; rintro e w' ⟨rfl, rfl⟩)
  go_ret
  exact ⟨rfl, rfl⟩
set_option maxRecDepth 100000 in
theorem get_fwd (h : EG W B ge sq lim ux uy dl F nf Lf nb Lb) (D : Nat) (k : Int) (hv : valid D k) (hD : D < nf) (hn : D < 1099511627776) :
    Calls Tryz.prog 80 #[.pointer (some ⟨ge, 0, none⟩), .int .i64 D, .int .i64 k] W fun e w' => e = .returned (.int .i64 (Lf D (ix D k))) ∧ W = w' := by
  obtain ⟨vf, vb, Ff, Fb, h⟩ := h
  have hi := ix_of hv
  have hg := label_get W B ge 1 Ff vf nf Lf ((blk_cell h.cells 1).trans rfl) h.tf D (ix D k) k hD hi.1 hi.2 hn
  clear h hi
  go_enter Tryz.func80, Tryz.ntmps80
  go_wp2_with (go_at_call 97; refine hg.mono ?_; rintro e w' ⟨rfl, rfl⟩)
  go_ret
  exact ⟨rfl, rfl⟩
set_option maxRecDepth 100000 in
theorem look_back (h : EG W B ge sq lim ux uy dl F nf Lf nb Lb) {E : Nat → Nat → Bool} {N M : Nat} (hs : SQ W F sq E N M) (k r : Int) (hk : -1099511627776 ≤ k ∧ k ≤ 1099511627776) (hr : -1099511627776 ≤ r ∧ r ≤ N) (hy : r - (k + dl) ≤ M) (hdl : -1099511627776 ≤ dl ∧ dl ≤ 1099511627776) :
    Calls Tryz.prog 83 #[.pointer (some ⟨ge, 0, none⟩), .int .i64 k, .int .i64 r] W fun e w' => e = .returned (.int .i64 (Go.Myers.look E dl k r)) ∧ Below W.heap.size W w' := by
  obtain ⟨vf, vb, Ff, Fb, h⟩ := h
  obtain ⟨ty, v, fl, fp, fs, rfl, hs⟩ := hs
  have hN := hs.hN
  have hM := hs.hM
  have hm := hs.ms
  have hcf := hs.cs
  have cell := fun i => blk_cell h.cells i
  have c0 := cell 0
  have c4 := cell 4
  have c5 := cell 5
  have c8 := cell 8
  simp [egC] at c0 c4 c5 c8
  clear cell h
  by_cases hp : 0 < r
  · by_cases hq : 0 < r - (k + dl)
    · obtain ⟨x, rfl⟩ : ∃ x : Nat, r = x := ⟨r.toNat, by omega⟩
      obtain ⟨y, hy2⟩ : ∃ y : Nat, (x : Int) - (k + dl) = y := ⟨((x : Int) - (k + dl)).toNat, by omega⟩
      have hcs := fun q => hs.suf (W.drewN q) F (Step.of_below (pw_below_drewN (Below.refl _ _) q)) x y (by omega) (by omega) (by omega) (by omega)
      have hl : Go.Myers.look E dl k x = x - (suf E x y : Nat) := by
        unfold Go.Myers.look
        rw [if_pos ⟨hp, hq⟩, hy2]
        rfl
      have hsl := suf_le (E := E) x y
      have HL := Lib.hid hl
      rw [← hy2] at hcs
      have HY := Lib.hid hy2
      clear hl hy2 hs
      go_enter Tryz.func83, Tryz.ntmps83
      go_wp2_with fail
      go_quiet (fail)
      go_wp2_with (refine (hcs _).mono ?_; rintro e w' ⟨rfl, o3, q3, rfl⟩)
      go_ret
      refine ⟨by rw [HL.out]; rfl, ?_⟩
      exact below_drewN (below_alloc (below_drewN (Below.refl _ _) _) _) _
    · have hl := look_out (E := E) (dl := dl) (k := k) (r := r) (fun h => hq h.2)
      have HL := Lib.hid hl
      clear hl hs
      go_enter Tryz.func83, Tryz.ntmps83
      go_wp2_with fail
      go_quiet (fail)
      go_wp2_with fail
      go_ret
      exact ⟨by rw [HL.out]; rfl, below_drewN (Below.refl _ _) _⟩
  · have hl := look_out (E := E) (dl := dl) (k := k) (r := r) (fun h => hp h.1)
    have HL := Lib.hid hl
    clear hl hs
    go_enter Tryz.func83, Tryz.ntmps83
    go_wp2_with fail
    go_quiet (fail)
    go_wp2_with fail
    go_ret
    exact ⟨by rw [HL.out]; rfl, below_drewN (Below.refl _ _) _⟩
set_option maxRecDepth 100000 in
theorem look_fwd {X Y : Nat} (h : EG W B ge sq lim X Y dl F nf Lf nb Lb) {E : Nat → Nat → Bool} {N M : Nat} (hs : SQ W F sq E N M) (hX : X ≤ N) (hY : Y ≤ M) (k r : Int) (hk : -1099511627776 ≤ k ∧ k ≤ 1099511627776) (hr : 0 ≤ r ∧ r ≤ 2199023255552) (hy : 0 ≤ r - k) :
    Calls Tryz.prog 81 #[.pointer (some ⟨ge, 0, none⟩), .int .i64 k, .int .i64 r] W fun e w' => e = .returned (.int .i64 (lookF E X Y k r)) ∧ Below W.heap.size W w' := by
  obtain ⟨vf, vb, Ff, Fb, h⟩ := h
  obtain ⟨ty, v, fl, fp, fs, rfl, hs⟩ := hs
  have hN := hs.hN
  have hM := hs.hM
  have hm := hs.mp
  have hcf := hs.cp
  have cell := fun i => blk_cell h.cells i
  have c0 := cell 0
  have c4 := cell 4
  have c5 := cell 5
  have c6 := cell 6
  have c7 := cell 7
  simp [egC] at c0 c4 c5 c6 c7
  have hcell : ∀ w', Below W.heap.size W w' → ∀ i u, W.cell? ⟨ge, i, none⟩ = some u → w'.cell? ⟨ge, i, none⟩ = some u := fun w' hb i u hu => by
    have := (blk_cell h.cells i).symm.trans hu
    rw [blk_cell ((hb.block ge (blk_lt h.cells)).trans h.cells) i, this]
  clear cell h
  obtain ⟨x, rfl⟩ : ∃ x : Nat, r = x := ⟨r.toNat, by omega⟩
  by_cases hp : x < X
  · by_cases hq : (x : Int) - k < Y
    · obtain ⟨y, hy2⟩ : ∃ y : Nat, (x : Int) - k = y := ⟨((x : Int) - k).toNat, by omega⟩
      have hcs : ∀ w', Below W.heap.size W w' → Calls Tryz.prog fp #[v, .int .i64 x, .int .i64 X, .int .i64 y, .int .i64 Y] w' fun e w2 => e = .returned (.int .i64 (suf (mir E X Y) (X - x) (Y - y) : Nat)) ∧ Below W.heap.size W w2 := fun w' hb => (hs.pre w' F (Step.of_below hb) x y X Y hp hX (by omega) hY).mono (by rintro e w2 ⟨h1, o, q, rfl⟩; exact ⟨h1, below_drewN (below_alloc hb _) _⟩)
      have hl : lookF E X Y k x = x + (suf (mir E X Y) (X - x) (Y - y) : Nat) := by
        rw [lookF_in (by omega) hq, hy2]
        congr 2
        congr 1 <;> omega
      have hsl := suf_le (E := mir E X Y) (X - x) (Y - y)
      have HL := Lib.hid hl
      rw [← hy2] at hcs
      have HY := Lib.hid hy2
      generalize suf (mir E X Y) (X - x) (Y - y) = z at *
      have hz : z ≤ X - x := hsl.1
      clear hl hy2 hs hsl
      go_enter Tryz.func81, Tryz.ntmps81
      go_wp2_with fail
      go_quiet (fail)
      go_wp2_with fail
      have hS : ∀ w', Below W.heap.size W w' → Below W.heap.size W w' ∧ w'.cell? ⟨ge, 0, none⟩ = some (.iface ty v) ∧ w'.cell? ⟨ge, 6, none⟩ = some (.int .i64 X) ∧ w'.cell? ⟨ge, 7, none⟩ = some (.int .i64 Y) := fun w' hb => ⟨hb, hcell w' hb 0 _ c0, hcell w' hb 6 _ c6, hcell w' hb 7 _ c7⟩
      have hb1 : Below W.heap.size W (W.drewN nq) := pw_below_drewN (Below.refl _ _) _
      generalize W.drewN nq = w1 at *
      go_region_held3 (fun w' => Below W.heap.size W w' ∧ w'.cell? ⟨ge, 0, none⟩ = some (.iface ty v) ∧ w'.cell? ⟨ge, 6, none⟩ = some (.int .i64 X) ∧ w'.cell? ⟨ge, 7, none⟩ = some (.int .i64 Y)) (first | (refine hS _ ?_; first | assumption | (apply Below.drew; assumption)) | go_keep) (first | (refine (hcs _ ?_).mono ?_; (first | assumption | (apply Below.drew; assumption)); rintro e w' ⟨rfl, hb3⟩))
      go_wp2_with fail
      go_ret
      refine ⟨?_, ?_⟩
      · rw [HL.out]
        show Ending.returned (.int .i64 (IntKind.i64.wrap ((x : Int) + z))) = _
        rw [IntWalk.i64_in _ (by omega)]
      first | assumption | (apply Below.drew; assumption)
    · have hl := lookF_out (E := E) (N := X) (M := Y) (k := k) (r := x) (fun h => hq h.2)
      have HL := Lib.hid hl
      clear hl hs
      go_enter Tryz.func81, Tryz.ntmps81
      go_wp2_with fail
      go_quiet (fail)
      go_wp2_with fail
      go_ret
      exact ⟨by rw [HL.out]; rfl, below_drewN (Below.refl _ _) _⟩
  · have hl := lookF_out (E := E) (N := X) (M := Y) (k := k) (r := x) (fun h => hp (by have := h.1; omega))
    have HL := Lib.hid hl
    clear hl hs
    go_enter Tryz.func81, Tryz.ntmps81
    go_wp2_with fail
    go_quiet (fail)
    go_wp2_with fail
    go_ret
    exact ⟨by rw [HL.out]; rfl, below_drewN (Below.refl _ _) _⟩
theorem label_set (W : World) (B ge c : Nat) (cs0 : Array Value) (F : Nat → Prop) (v : Value) (n : Nat) (L : Nat → Nat → Int) (hg : W.heap[ge]? = some (.cells cs0 139 (0, 0))) (hcv : cs0[c]? = some v) (hT : Tri W B F v n L) (hFg : ¬ F ge) (hBg : B ≤ ge)
    (D j : Nat) (k x : Int) (hD : D ≤ n) (hj : (D : Int) + k = 2 * j) (hjD : j ≤ D) (hn : D < 1099511627776) :
    Calls Tryz.prog 96 #[.pointer (some ⟨ge, c, none⟩), .int .i64 D, .int .i64 k, .int .i64 x] W fun e w' => e = .returned (.tuple #[]) ∧ SetPost W B ge c cs0 F n L D j x w' := by
  rcases Nat.lt_or_ge D n with h | h
  · exact label_set_old W B ge c cs0 F v n L hg hcv hT hFg hBg D j k x h hj hjD hn
  · obtain rfl : D = n := by omega
    exact label_set_new W B ge c cs0 F v D L hg hcv hT hFg (by have := blk_lt hg; omega) j k x hj hjD hn
def SetB (W w' : World) (B ge : Nat) (sq : Value) (lim ux uy dl : Int) (F : Nat → Prop) (nf : Nat) (Lf : Nat → Nat → Int) (nb : Nat) (Lb : Nat → Nat → Int) (D j : Nat) (x : Int) : Prop :=
  ∃ F' L', Step W w' F F' ∧ EG w' B ge sq lim ux uy dl F' nf Lf (if D < nb then nb else D + 1) L' ∧ L' D j = x ∧ (∀ d i, d < nb → ¬ (d = D ∧ i = j) → L' d i = Lb d i)
set_option maxRecDepth 100000 in
theorem set_back (h : EG W B ge sq lim ux uy dl F nf Lf nb Lb) {E : Nat → Nat → Bool} {N M : Nat} (hs : SQ W F sq E N M) (D : Nat) (k r : Int) (hv : valid D k) (hD : D ≤ nb) (hn : D < 1099511627776) (hr : -1099511627776 ≤ r ∧ r ≤ N) (hy : r - (k + dl) ≤ M) (hdl : -1099511627776 ≤ dl ∧ dl ≤ 1099511627776) :
    Calls Tryz.prog 77 #[.pointer (some ⟨ge, 0, none⟩), .int .i64 D, .int .i64 k, .int .i64 r] W fun e w' => e = .returned (.tuple #[]) ∧ SetB W w' B ge sq lim ux uy dl F nf Lf nb Lb D (ix D k) (Go.Myers.look E dl k r) := by
  have hl := look_back h hs k r (by obtain ⟨a, b, _⟩ := hv; omega) hr hy hdl
  have hi := ix_of hv
  have hlk : -2199023255552 ≤ Go.Myers.look E dl k r ∧ Go.Myers.look E dl k r ≤ 1099511627776 := by
    have h1 := look_le (E := E) dl k r
    have hN : N ≤ 1099511627776 := by obtain ⟨_, _, _, _, _, _, hs⟩ := hs; exact hs.hN
    by_cases hp : 0 < r ∧ 0 < r - (k + dl)
    · have := look_in (E := E) hp.1 hp.2; omega
    · rw [look_out hp] at *; omega
  have H := Aside0.mk h
  have HLK := Lib.hid hi
  clear hs h hi hy hr
  go_enter Tryz.func77, Tryz.ntmps77
  go_wp2_with (go_at_call 83; refine hl.mono ?_; rintro e w1 ⟨rfl, hb1⟩)
  have h1 := H.out.below hb1.drew
  have HB := Aside0.mk hb1.drew
  obtain ⟨vf, vb, Ff, Fb, hx⟩ := h1
  have c4 : w1.cell? ⟨ge, 4, none⟩ = some (.int .i64 0) := (blk_cell hx.cells 4).trans rfl
  have hset := label_set w1.drew B ge 2 _ Fb vb nb Lb hx.cells rfl hx.tb hx.gb hx.lo D (ix D k) k (Go.Myers.look E dl k r) hD HLK.out.1 HLK.out.2 hn
  have HX := Aside0.mk hx
  clear hb1 hl hx
  go_still_tail 11, (by kernel_rfl)
  change wpList _ _ _ _ _ w1.drew
  generalize w1.drew = w2 at *
  go_wp2_with (go_at_call 96; refine hset.mono ?_; rintro e w3 ⟨rfl, hp⟩)
  go_end0
  obtain ⟨F', L', s1, s2, s3, s4⟩ := EG.setb HX.out hp
  exact ⟨rfl, F', L', (Step.of_below HB.out).trans s1, s2, s3, s4⟩
def SetF (W w' : World) (B ge : Nat) (sq : Value) (lim ux uy dl : Int) (F : Nat → Prop) (nf : Nat) (Lf : Nat → Nat → Int) (nb : Nat) (Lb : Nat → Nat → Int) (D j : Nat) (x : Int) : Prop :=
  ∃ F' L', Step W w' F F' ∧ EG w' B ge sq lim ux uy dl F' (if D < nf then nf else D + 1) L' nb Lb ∧ L' D j = x ∧ (∀ d i, d < nf → ¬ (d = D ∧ i = j) → L' d i = Lf d i)
set_option maxRecDepth 100000 in
theorem set_fwd {X Y : Nat} (h : EG W B ge sq lim X Y dl F nf Lf nb Lb) {E : Nat → Nat → Bool} {N M : Nat} (hs : SQ W F sq E N M) (hX : X ≤ N) (hY : Y ≤ M) (D : Nat) (k r : Int) (hv : valid D k) (hD : D ≤ nf) (hn : D < 1099511627776) (hr : 0 ≤ r ∧ r ≤ 2199023255552) (hy : 0 ≤ r - k) :
    Calls Tryz.prog 76 #[.pointer (some ⟨ge, 0, none⟩), .int .i64 D, .int .i64 k, .int .i64 r] W fun e w' => e = .returned (.tuple #[]) ∧ SetF W w' B ge sq lim X Y dl F nf Lf nb Lb D (ix D k) (lookF E X Y k r) := by
  have hl := look_fwd h hs hX hY k r (by obtain ⟨a, b, _⟩ := hv; omega) hr hy
  have hi := ix_of hv
  have hlk : 0 ≤ lookF E X Y k r ∧ lookF E X Y k r ≤ 2199023255552 := by
    have h1 := lookF_ge (E := E) (N := X) (M := Y) k r
    have hN : N ≤ 1099511627776 := by obtain ⟨_, _, _, _, _, _, hs⟩ := hs; exact hs.hN
    by_cases hp : r < X ∧ r - k < Y
    · rw [lookF_in hp.1 hp.2] at *
      have := suf_le (E := mir E X Y) ((X : Int) - r).toNat ((Y : Int) - (r - k)).toNat
      omega
    · rw [lookF_out hp] at *; omega
  have H := Aside0.mk h
  have HLK := Lib.hid hi
  clear hs h hi hy hr
  go_enter Tryz.func76, Tryz.ntmps76
  go_wp2_with (go_at_call 81; refine hl.mono ?_; rintro e w1 ⟨rfl, hb1⟩)
  have h1 := H.out.below hb1.drew
  have HB := Aside0.mk hb1.drew
  obtain ⟨vf, vb, Ff, Fb, hx⟩ := h1
  have c4 : w1.cell? ⟨ge, 4, none⟩ = some (.int .i64 0) := (blk_cell hx.cells 4).trans rfl
  have hset := label_set w1.drew B ge 1 _ Ff vf nf Lf hx.cells rfl hx.tf hx.gf hx.lo D (ix D k) k (lookF E X Y k r) hD HLK.out.1 HLK.out.2 hn
  have HX := Aside0.mk hx
  clear hb1 hl hx
  go_still_tail 11, (by kernel_rfl)
  change wpList _ _ _ _ _ w1.drew
  generalize w1.drew = w2 at *
  go_wp2_with (go_at_call 96; refine hset.mono ?_; rintro e w3 ⟨rfl, hp⟩)
  go_end0
  obtain ⟨F', L', s1, s2, s3, s4⟩ := EG.setf HX.out hp
  exact ⟨rfl, F', L', (Step.of_below HB.out).trans s1, s2, s3, s4⟩
end
end Go.Proofs.YtonajgipkpnpoaaGreatDoor.Gr
namespace Go.Proofs.YtonajgipkpnpoaaGreatDoor.Gr
open Go.RowKit Go.Proofs.YtonajgipkpnpoaaGreatDoorW.PrintWords
set_option linter.unusedVariables false
set_option linter.unusedSimpArgs false
def Seg (w : World) (size : Nat) (x : Value) (m : Nat) (news : List Value) : Prop :=
  (x = .slice none 0 0 ∧ m = 0 ∧ news = []) ∨ ∃ ad c, x = .slice (some ad) m c ∧ news.length = m * size ∧ ∀ j u, news[j]? = some u → w.cell? (ad.add j) = some u
theorem Seg.of_world {w w' : World} {size : Nat} {x : Value} {m : Nat} {news : List Value} (h : Seg w size x m news) (hc : ∀ a u, w.cell? a = some u → w'.cell? a = some u) : Seg w' size x m news := by
  rcases h with h | ⟨ad, c, h1, h2, h3⟩
  · exact Or.inl h
  · exact Or.inr ⟨ad, c, h1, h2, fun j u hu => hc _ _ (h3 j u hu)⟩
section
variable {P : Program} {w : World}
theorem append_arg {t tx ty : TypeId} (e e' : TypeId) (ht : P.underlying t = some (.slice e)) (hx : P.underlying tx = some (.slice e')) (v x : Value) : (Builtin.append_ #[t, tx] ty #[v, x]).run P w = (Builtin.append_ #[t, t] ty #[v, x]).run P w := by
  cases v with
  | slice b sl sc =>
    simp only [Builtin.append_, List.getElem?_toArray, List.getElem?_cons_zero, List.getElem?_cons_succ, Sem.run_bind, Sem.run_pure, run_underlying ht, run_underlying hx, Result.andThen_ok]
  | _ => simp [Builtin.append_, run_underlying ht, run_underlying hx]
theorem run_append_seg (t tx ty : TypeId) (base : Nat) (e : TypeId) (i : TypeInfo) (z : Value) (size bytes : Nat) (ht : P.underlying t = some (.slice e)) (htx : P.underlying tx = some (.slice e)) (hi : P.info? e = some i) (hz : i.zero = some z)
    (hsize : i.size = size) (hby : i.bytes = bytes) (hzs : z.cells.size = size) (hsz : 0 < size)
    (v : Value) (n : Nat) (xs : List Value) (hown : w.ownsRow base e size v n xs)
    (x : Value) (m : Nat) (news : List Value) (hx : Seg w size x m news) (h1 : ∀ u ∈ news, u.oneCell' = true)
    (h63 : n + m ≤ maxLen) (hbytes : (n + m) * bytes ≤ 140737488355328) (hbase : base ≤ w.heap.size) :
    ∃ A cap w', (Builtin.append_ #[t, tx] ty #[v, x]).run P w = .ok (.slice A (n + m) cap) w' ∧
      w'.ownsRow base e size (.slice A (n + m) cap) (n + m) (xs ++ news) ∧ w.grownBy w' v.ownBlock ∧ ((Value.slice A (n + m) cap).ownBlock = v.ownBlock ∨ (Value.slice A (n + m) cap).ownBlock = some w.heap.size) := by
  rw [append_arg e e ht htx]
  rcases hx with ⟨rfl, rfl, rfl⟩ | ⟨ad, c, rfl, hl, hc⟩
  · have hr := run_append_owned_none (P := P) (w := w) base t ty e i size ht hi v n xs hown
    obtain ⟨A, cap, rfl⟩ := own_slice hown
    exact ⟨A, cap, w, hr, by rw [List.append_nil]; exact hown, ⟨rfl, rfl, rfl, Nat.le_refl _, fun _ _ _ => rfl⟩, Or.inl rfl⟩
  · obtain ⟨v', w', hr, h2, h3, _, h5⟩ := run_append_own_at (P := P) w base t ty e i z size bytes ht hi hz hsize hby hzs hsz v n xs hown ad m c news hl hc h1 h63 hbytes hbase
    obtain ⟨A, cap, rfl⟩ := own_slice h2
    exact ⟨A, cap, w', hr, h2, h3, h5⟩
theorem wp_append_seg {o : Oper} {a : Act} {K : Act → World → Prop} {Q : Exit → Act → World → Prop} (s x : Operand) (t tx : TypeId)
    (ho : o.op = .call { callee := .builtin .append, args := #[s, x], argTypes := #[t, tx] })
    (base : Nat) (e : TypeId) (i : TypeInfo) (z : Value) (size bytes : Nat) (ht : P.underlying t = some (.slice e)) (htx : P.underlying tx = some (.slice e)) (hi : P.info? e = some i) (hz : i.zero = some z)
    (hsize : i.size = size) (hby : i.bytes = bytes) (hzs : z.cells.size = size) (hsz : 0 < size)
    (v : Value) (n : Nat) (xs : List Value) (hs : a.eval s = v) (hown : w.ownsRow base e size v n xs)
    (m : Nat) (news : List Value) (hx : Seg w size (a.eval x) m news) (h1 : ∀ u ∈ news, u.oneCell' = true)
    (h63 : n + m ≤ maxLen) (hbytes : (n + m) * bytes ≤ 140737488355328) (hbase : base ≤ w.heap.size)
    (h : ∀ A cap w', w'.ownsRow base e size (.slice A (n + m) cap) (n + m) (xs ++ news) → w.grownBy w' v.ownBlock → ((Value.slice A (n + m) cap).ownBlock = v.ownBlock ∨ (Value.slice A (n + m) cap).ownBlock = some w.heap.size) → K (a.put o.dst (.slice A (n + m) cap)) w') : o.wp P a w K Q := by
  obtain ⟨A, cap, w', hr, h2, h3, h4⟩ := run_append_seg (P := P) (w := w) t tx o.type base e i z size bytes ht htx hi hz hsize hby hzs hsz v n xs hown _ m news hx h1 h63 hbytes hbase
  unfold Oper.wp execOp
  simp only [ho, resolve, invoke, builtin, Sem.run_bind, Sem.run_pure, Result.andThen_ok, List.map_toArray, List.map_cons, List.map_nil, hs, hr]
  exact h A cap w' h2 h3 h4
theorem wpList_append_seg {ops : Array Oper} {rest : List Oper} {o : Oper} {a : Act} {Q : Exit → Act → World → Prop} (hgd : o.guard = none) (s x : Operand) (t tx : TypeId)
    (ho : o.op = .call { callee := .builtin .append, args := #[s, x], argTypes := #[t, tx] })
    (base : Nat) (e : TypeId) (i : TypeInfo) (z : Value) (size bytes : Nat) (ht : P.underlying t = some (.slice e)) (htx : P.underlying tx = some (.slice e)) (hi : P.info? e = some i) (hz : i.zero = some z)
    (hsize : i.size = size) (hby : i.bytes = bytes) (hzs : z.cells.size = size) (hsz : 0 < size)
    (v : Value) (n : Nat) (xs : List Value) (hs : a.eval s = v) (hown : w.ownsRow base e size v n xs)
    (m : Nat) (news : List Value) (hx : Seg w size (a.eval x) m news) (h1 : ∀ u ∈ news, u.oneCell' = true)
    (h63 : n + m ≤ maxLen) (hbytes : (n + m) * bytes ≤ 140737488355328) (hbase : base ≤ w.heap.size)
    (h : ∀ A cap w', w'.ownsRow base e size (.slice A (n + m) cap) (n + m) (xs ++ news) → w.grownBy w' v.ownBlock → ((Value.slice A (n + m) cap).ownBlock = v.ownBlock ∨ (Value.slice A (n + m) cap).ownBlock = some w.heap.size) → wpList P ops Q rest (a.put o.dst (.slice A (n + m) cap)) w') : wpList P ops Q (o :: rest) a w :=
  wpList_plain hgd fun _ hK => wp_append_seg s x t tx ho base e i z size bytes ht htx hi hz hsize hby hzs hsz v n xs hs hown m news hx h1 h63 hbytes hbase fun A cap w' h2 h3 h4 => hK _ _ (h A cap w' h2 h3 h4)
end
theorem seg_own {w : World} {B e size n : Nat} {A : Option Addr} {cap : Nat} {xs : List Value} (h : w.ownsRow B e size (.slice A n cap) n xs) : Seg w size (.slice A n cap) n xs := by
  rcases h.2 with ⟨hv, h0⟩ | ⟨g, cap', cur, hv, hb, hg, hn, hm, hs, ht⟩
  · left
    subst h0
    exact ⟨hv, rfl, List.eq_nil_of_length_eq_zero (by rw [h.1]; omega)⟩
  · right
    injection hv with e1 e2 e3
    subst e1 e3
    refine ⟨_, _, rfl, h.1, fun j u hu => ?_⟩
    have hadd : (⟨g, 0, none⟩ : Addr).add j = ⟨g, j, none⟩ := by unfold Addr.add; split <;> simp_all
    rw [hadd, blk_cell hg j, ← Array.getElem?_toList]
    rw [← ht, List.getElem?_take] at hu
    split at hu
    · exact hu
    · cases hu
end Go.Proofs.YtonajgipkpnpoaaGreatDoor.Gr
