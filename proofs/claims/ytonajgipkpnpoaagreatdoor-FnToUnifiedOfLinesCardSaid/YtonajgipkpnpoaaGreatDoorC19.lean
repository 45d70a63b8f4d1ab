/- overlap: what is left of a piece beside another one. Two sequences (lines): how much they have in common at their ends. Printed by wip/gen/genseq.py. -/
import Derived.Test.YtonajgipkpnpoaaGreatDoorC18
import Derived.Test.YtonajgipkpnpoaaGreatDoorC00
import Derived.Test.YtonajgipkpnpoaaGreatDoorC15
namespace Go.Proofs.YtonajgipkpnpoaaGreatDoor.Gr
open Go.RowKit Go.Proofs.YtonajgipkpnpoaaGreatDoorW.PrintWords Go.Myers
set_option linter.unusedVariables false
def aggD (d : Dg) : Value := .agg #[.int .i64 d.x, .int .i64 d.y, .int .i64 d.len]
def cellsA (d : Dg) : Array Value := #[.int .i64 d.x, .int .i64 d.y, .int .i64 d.len]
def OvPost (W : World) (e p : Dg) (r : Ending) (w' : World) : Prop :=
  Below W.heap.size W w' ∧ ∃ (dir : Int) (q : Dg), r = .returned (.tuple #[.int .i64 dir, aggD q]) ∧ (dir = 0 ∨ dir = 1 ∨ dir = 2 ∨ dir = 3) ∧ (dir = 0 → q.len ≤ 0) ∧ (dir ≠ 0 → Sub q p) ∧ (dir = 1 ∨ dir = 2 → Sep q e)
structure OvW (W : World) (e q : Dg) (w : World) : Prop where
  bel : Below W.heap.size W w
  be : w.heap[W.heap.size]? = some (.cells (cellsA e) 162 (0, 0))
  bq : w.heap[W.heap.size + 1]? = some (.cells (cellsA q) 162 (0, 0))
  br : ∃ z : Dg, w.heap[W.heap.size + 2]? = some (.cells (cellsA z) 162 (0, 0))
theorem new_obj (w : World) (o : Obj) : (w.alloc o).heap[w.heap.size]? = some o := by
  rw [show (w.alloc o).heap = w.heap.push o from rfl]; simp
theorem OvW.start (W : World) (e p : Dg) : OvW W e p (((W.alloc (.cells #[.int .i64 e.x, .int .i64 e.y, .int .i64 e.len] 162)).alloc (.cells #[.int .i64 p.x, .int .i64 p.y, .int .i64 p.len] 162)).alloc (.cells #[.int .i64 0, .int .i64 0, .int .i64 0] 162)) := by
  have h1 := new_obj W (.cells #[.int .i64 e.x, .int .i64 e.y, .int .i64 e.len] 162)
  have h2 := new_obj (W.alloc (.cells #[.int .i64 e.x, .int .i64 e.y, .int .i64 e.len] 162)) (.cells #[.int .i64 p.x, .int .i64 p.y, .int .i64 p.len] 162)
  have h3 := new_obj ((W.alloc (.cells #[.int .i64 e.x, .int .i64 e.y, .int .i64 e.len] 162)).alloc (.cells #[.int .i64 p.x, .int .i64 p.y, .int .i64 p.len] 162)) (.cells #[.int .i64 0, .int .i64 0, .int .i64 0] 162)
  have s1 : (W.alloc (.cells #[.int .i64 e.x, .int .i64 e.y, .int .i64 e.len] 162)).heap.size = W.heap.size + 1 := by simp
  have s2 : ((W.alloc (.cells #[.int .i64 e.x, .int .i64 e.y, .int .i64 e.len] 162)).alloc (.cells #[.int .i64 p.x, .int .i64 p.y, .int .i64 p.len] 162)).heap.size = W.heap.size + 2 := by simp
  rw [s1] at h2
  rw [s2] at h3
  exact ⟨below_alloc (below_alloc (below_alloc (Below.refl _ _) _) _) _, (Below.heap_alloc _ _ _ (by omega)).trans ((Below.heap_alloc _ _ _ (by omega)).trans h1), (Below.heap_alloc _ _ _ (by omega)).trans h2, ⟨0, 0, 0⟩, h3⟩
section
variable {W w : World} {e q : Dg}
theorem OvW.set (h : OvW W e q w) (i : Nat) (v : Value) {q' : Dg} (hq : (cellsA q).setIfInBounds i v = cellsA q') : OvW W e q' (w.setCell ⟨W.heap.size + 1, i, none⟩ v) := by
  have hb := blk_set h.bq i v
  rw [hq] at hb
  obtain ⟨z, hz⟩ := h.br
  exact ⟨Below.setCell h.bel (by show W.heap.size ≤ W.heap.size + 1; omega) _, blk_far h.be (by show W.heap.size ≠ W.heap.size + 1; omega) _, hb, z, blk_far hz (by show W.heap.size + 2 ≠ W.heap.size + 1; omega) _⟩
end
theorem OvW.ret {W w : World} {e q : Dg} (h : OvW W e q w) : Below W.heap.size W (((w.setCell ⟨W.heap.size + 1 + 1, 0, none⟩ (.int .i64 q.x)).setCell ⟨W.heap.size + 1 + 1, 1, none⟩ (.int .i64 q.y)).setCell ⟨W.heap.size + 1 + 1, 2, none⟩ (.int .i64 q.len)).drew ∧
    (((w.setCell ⟨W.heap.size + 1 + 1, 0, none⟩ (.int .i64 q.x)).setCell ⟨W.heap.size + 1 + 1, 1, none⟩ (.int .i64 q.y)).setCell ⟨W.heap.size + 1 + 1, 2, none⟩ (.int .i64 q.len)).drew.heap[W.heap.size + 1 + 1]? = some (.cells (cellsA q) 162 (0, 0)) := by
  obtain ⟨z, hz⟩ := h.br
  exact ⟨(Below.setCell (Below.setCell (Below.setCell h.bel (by show W.heap.size ≤ W.heap.size + 1 + 1; omega) _) (by show W.heap.size ≤ W.heap.size + 1 + 1; omega) _) (by show W.heap.size ≤ W.heap.size + 1 + 1; omega) _).drew, blk_set (blk_set (blk_set hz 0 _) 1 _) 2 _⟩
theorem sub_bnd {q p : Dg} (h : Sub q p) (hp : 0 ≤ p.x ∧ p.x ≤ 1099511627776 ∧ 0 ≤ p.y ∧ p.y ≤ 1099511627776 ∧ 0 < p.len ∧ p.len ≤ 1099511627776) : 0 ≤ q.x ∧ q.x ≤ 2199023255552 ∧ 0 ≤ q.y ∧ q.y ≤ 2199023255552 ∧ 0 < q.len ∧ q.len ≤ 1099511627776 := by
  obtain ⟨t, a1, a2, a3, a4, a5⟩ := h
  omega
set_option maxRecDepth 100000 in
set_option maxHeartbeats 4000000 in
theorem overlap_any (W : World) (e p : Dg) (he : 0 ≤ e.x ∧ e.x ≤ 1099511627776 ∧ 0 ≤ e.y ∧ e.y ≤ 1099511627776 ∧ 0 ≤ e.len ∧ e.len ≤ 1099511627776) (hp : 0 ≤ p.x ∧ p.x ≤ 1099511627776 ∧ 0 ≤ p.y ∧ p.y ≤ 1099511627776 ∧ 0 < p.len ∧ p.len ≤ 1099511627776) :
    Calls Tryz.prog 105 #[aggD e, aggD p] W fun r w' => OvPost W e p r w' := by
  unfold aggD
  have hst := OvW.start W e p
  have HST := Aside0.mk hst
  have HSQ : Hid (Sub p p) := Lib.hid (Sub.refl hp.2.2.2.2.1)
  obtain ⟨e1, e2, e3, e4, e5, e6⟩ := he
  clear hst
  go_enter Tryz.func105, Tryz.ntmps105
  go_upto_region 1 with fail
  go_cut [24] from 10 to 24 (fun v w => ∃ b : Bool, v = .bool b ∧ Hid (b = true → p.x ≤ e.x ∧ e.x < p.x + p.len) ∧ Aside0 (OvW W e p w))
  case first =>
    by_cases h1 : p.x ≤ e.x
    · by_cases h2 : e.x < p.x + p.len
      · go_wp2_with fail
        go_meet
        exact ⟨true, rfl, Lib.hid (fun _ => ⟨h1, h2⟩), HST⟩
      · go_wp2_with fail
        go_meet
        exact ⟨false, rfl, Lib.hid (fun h => by cases h), HST⟩
    · go_wp2_with fail
      go_meet
      exact ⟨false, rfl, Lib.hid (fun h => by cases h), HST⟩
  case rest =>
    obtain ⟨b, rfl, HBC, HW⟩ := hcut
    have ce0 : wc.cell? ⟨W.heap.size, 0, none⟩ = some (.int .i64 e.x) := (blk_cell HW.out.be 0).trans rfl
    have ce1 : wc.cell? ⟨W.heap.size, 1, none⟩ = some (.int .i64 e.y) := (blk_cell HW.out.be 1).trans rfl
    have ce2 : wc.cell? ⟨W.heap.size, 2, none⟩ = some (.int .i64 e.len) := (blk_cell HW.out.be 2).trans rfl
    have cq0 : wc.cell? ⟨W.heap.size + 1, 0, none⟩ = some (.int .i64 p.x) := (blk_cell HW.out.bq 0).trans rfl
    have cq1 : wc.cell? ⟨W.heap.size + 1, 1, none⟩ = some (.int .i64 p.y) := (blk_cell HW.out.bq 1).trans rfl
    have cq2 : wc.cell? ⟨W.heap.size + 1, 2, none⟩ = some (.int .i64 p.len) := (blk_cell HW.out.bq 2).trans rfl
    have fq0 : wc.frozen? ⟨W.heap.size + 1, 0, none⟩ = false := blk_frozen HW.out.bq 0
    have fq1 : wc.frozen? ⟨W.heap.size + 1, 1, none⟩ = false := blk_frozen HW.out.bq 1
    have fq2 : wc.frozen? ⟨W.heap.size + 1, 2, none⟩ = false := blk_frozen HW.out.bq 2
    obtain ⟨z, hz⟩ := HW.out.br
    have cz0 : wc.cell? ⟨W.heap.size + 1 + 1, 0, none⟩ = some (.int .i64 z.x) := (blk_cell hz 0).trans rfl
    have cz1 : wc.cell? ⟨W.heap.size + 1 + 1, 1, none⟩ = some (.int .i64 z.y) := (blk_cell hz 1).trans rfl
    have cz2 : wc.cell? ⟨W.heap.size + 1 + 1, 2, none⟩ = some (.int .i64 z.len) := (blk_cell hz 2).trans rfl
    have fz0 : wc.frozen? ⟨W.heap.size + 1 + 1, 0, none⟩ = false := blk_frozen hz 0
    have fz1 : wc.frozen? ⟨W.heap.size + 1 + 1, 1, none⟩ = false := blk_frozen hz 1
    have fz2 : wc.frozen? ⟨W.heap.size + 1 + 1, 2, none⟩ = false := blk_frozen hz 2
    have HZ := Aside0.mk hz
    clear hz
    obtain ⟨g1, g2, g3, g4, g5, g6⟩ := sub_bnd HSQ.out hp
    go_upto_if 24 with fail
    go_cut [6] from 6 to 41 (fun v w => ∃ q : Dg, Hid (Sub q p) ∧ Aside0 (OvW W e q w))
    case first =>
      cases b with
      | false =>
        go_wp2_with fail
        go_meet
        exact ⟨p, HSQ, HW⟩
      | true =>
        obtain ⟨h1, h2⟩ := HBC.out rfl
        by_cases h3 : p.len - (p.x + p.len - e.x) ≤ 0
        · go_wp2_with fail
          go_region
          go_wp2_with fail
          have HR := Aside0.mk (OvW.ret (HW.out.set (q' := ⟨p.x, p.y, p.len - (p.x + p.len - e.x)⟩) 2 _ rfl))
          refine bodyPost_ret (results_tc rfl _ _ (W.heap.size + 1 + 1) 162 (cellsA ⟨p.x, p.y, p.len - (p.x + p.len - e.x)⟩) (0, 0) _ rfl HR.out.2 Tryz.underlying162 rfl (by kernel_rfl)) rfl ?_
          exact ⟨HR.out.1, 0, ⟨p.x, p.y, p.len - (p.x + p.len - e.x)⟩, rfl, Or.inl rfl, fun _ => h3, fun h => absurd rfl h, fun h => by omega⟩
        · have hsb : Sub ⟨p.x, p.y, p.len - (p.x + p.len - e.x)⟩ p := by
            refine ⟨0, by omega, ?_, ?_, ?_, ?_⟩ <;> (dsimp only <;> omega)
          have HSB := Lib.hid (hsb.trans HSQ.out)
          clear hsb
          go_wp2_with fail
          go_meet
          exact ⟨⟨p.x, p.y, p.len - (p.x + p.len - e.x)⟩, HSB, ⟨HW.out.set 2 _ rfl⟩⟩
    case rest =>
      obtain ⟨q1, HSQ, HW⟩ := hcut
      clear HBC
      have ce0 : wc.cell? ⟨W.heap.size, 0, none⟩ = some (.int .i64 e.x) := (blk_cell HW.out.be 0).trans rfl
      have ce1 : wc.cell? ⟨W.heap.size, 1, none⟩ = some (.int .i64 e.y) := (blk_cell HW.out.be 1).trans rfl
      have ce2 : wc.cell? ⟨W.heap.size, 2, none⟩ = some (.int .i64 e.len) := (blk_cell HW.out.be 2).trans rfl
      have cq0 : wc.cell? ⟨W.heap.size + 1, 0, none⟩ = some (.int .i64 q1.x) := (blk_cell HW.out.bq 0).trans rfl
      have cq1 : wc.cell? ⟨W.heap.size + 1, 1, none⟩ = some (.int .i64 q1.y) := (blk_cell HW.out.bq 1).trans rfl
      have cq2 : wc.cell? ⟨W.heap.size + 1, 2, none⟩ = some (.int .i64 q1.len) := (blk_cell HW.out.bq 2).trans rfl
      have fq0 : wc.frozen? ⟨W.heap.size + 1, 0, none⟩ = false := blk_frozen HW.out.bq 0
      have fq1 : wc.frozen? ⟨W.heap.size + 1, 1, none⟩ = false := blk_frozen HW.out.bq 1
      have fq2 : wc.frozen? ⟨W.heap.size + 1, 2, none⟩ = false := blk_frozen HW.out.bq 2
      obtain ⟨z, hz⟩ := HW.out.br
      have cz0 : wc.cell? ⟨W.heap.size + 1 + 1, 0, none⟩ = some (.int .i64 z.x) := (blk_cell hz 0).trans rfl
      have cz1 : wc.cell? ⟨W.heap.size + 1 + 1, 1, none⟩ = some (.int .i64 z.y) := (blk_cell hz 1).trans rfl
      have cz2 : wc.cell? ⟨W.heap.size + 1 + 1, 2, none⟩ = some (.int .i64 z.len) := (blk_cell hz 2).trans rfl
      have fz0 : wc.frozen? ⟨W.heap.size + 1 + 1, 0, none⟩ = false := blk_frozen hz 0
      have fz1 : wc.frozen? ⟨W.heap.size + 1 + 1, 1, none⟩ = false := blk_frozen hz 1
      have fz2 : wc.frozen? ⟨W.heap.size + 1 + 1, 2, none⟩ = false := blk_frozen hz 2
      have HZ := Aside0.mk hz
      clear hz
      obtain ⟨g1, g2, g3, g4, g5, g6⟩ := sub_bnd HSQ.out hp
      go_upto_region 6 with fail
      go_cut [56] from 42 to 56 (fun v w => ∃ b : Bool, v = .bool b ∧ Hid (b = true → e.x ≤ q1.x ∧ q1.x < e.x + e.len) ∧ Aside0 (OvW W e q1 w))
      case first =>
        by_cases h1 : e.x ≤ q1.x
        · by_cases h2 : q1.x < e.x + e.len
          · go_wp2_with fail
            go_meet
            exact ⟨true, rfl, Lib.hid (fun _ => ⟨h1, h2⟩), HW⟩
          · go_wp2_with fail
            go_meet
            exact ⟨false, rfl, Lib.hid (fun h => by cases h), HW⟩
        · go_wp2_with fail
          go_meet
          exact ⟨false, rfl, Lib.hid (fun h => by cases h), HW⟩
      case rest =>
        obtain ⟨b, rfl, HBC, HW⟩ := hcut
        have ce0 : wc.cell? ⟨W.heap.size, 0, none⟩ = some (.int .i64 e.x) := (blk_cell HW.out.be 0).trans rfl
        have ce1 : wc.cell? ⟨W.heap.size, 1, none⟩ = some (.int .i64 e.y) := (blk_cell HW.out.be 1).trans rfl
        have ce2 : wc.cell? ⟨W.heap.size, 2, none⟩ = some (.int .i64 e.len) := (blk_cell HW.out.be 2).trans rfl
        have cq0 : wc.cell? ⟨W.heap.size + 1, 0, none⟩ = some (.int .i64 q1.x) := (blk_cell HW.out.bq 0).trans rfl
        have cq1 : wc.cell? ⟨W.heap.size + 1, 1, none⟩ = some (.int .i64 q1.y) := (blk_cell HW.out.bq 1).trans rfl
        have cq2 : wc.cell? ⟨W.heap.size + 1, 2, none⟩ = some (.int .i64 q1.len) := (blk_cell HW.out.bq 2).trans rfl
        have fq0 : wc.frozen? ⟨W.heap.size + 1, 0, none⟩ = false := blk_frozen HW.out.bq 0
        have fq1 : wc.frozen? ⟨W.heap.size + 1, 1, none⟩ = false := blk_frozen HW.out.bq 1
        have fq2 : wc.frozen? ⟨W.heap.size + 1, 2, none⟩ = false := blk_frozen HW.out.bq 2
        obtain ⟨z, hz⟩ := HW.out.br
        have cz0 : wc.cell? ⟨W.heap.size + 1 + 1, 0, none⟩ = some (.int .i64 z.x) := (blk_cell hz 0).trans rfl
        have cz1 : wc.cell? ⟨W.heap.size + 1 + 1, 1, none⟩ = some (.int .i64 z.y) := (blk_cell hz 1).trans rfl
        have cz2 : wc.cell? ⟨W.heap.size + 1 + 1, 2, none⟩ = some (.int .i64 z.len) := (blk_cell hz 2).trans rfl
        have fz0 : wc.frozen? ⟨W.heap.size + 1 + 1, 0, none⟩ = false := blk_frozen hz 0
        have fz1 : wc.frozen? ⟨W.heap.size + 1 + 1, 1, none⟩ = false := blk_frozen hz 1
        have fz2 : wc.frozen? ⟨W.heap.size + 1 + 1, 2, none⟩ = false := blk_frozen hz 2
        have HZ := Aside0.mk hz
        clear hz
        obtain ⟨g1, g2, g3, g4, g5, g6⟩ := sub_bnd HSQ.out hp
        go_upto_if 56 with fail
        go_cut [7] from 7 to 83 (fun v w => ∃ q : Dg, Hid (Sub q p) ∧ Aside0 (OvW W e q w))
        case first =>
          cases b with
          | false =>
            go_wp2_with fail
            go_meet
            exact ⟨q1, HSQ, HW⟩
          | true =>
            obtain ⟨h1, h2⟩ := HBC.out rfl
            by_cases h3 : q1.len - (e.x + e.len - q1.x) ≤ 0
            · go_wp2_with fail
              go_region
              go_wp2_with fail
              have HR := Aside0.mk (OvW.ret (HW.out.set (q' := ⟨q1.x, q1.y, q1.len - (e.x + e.len - q1.x)⟩) 2 _ rfl))
              refine bodyPost_ret (results_tc rfl _ _ (W.heap.size + 1 + 1) 162 (cellsA ⟨q1.x, q1.y, q1.len - (e.x + e.len - q1.x)⟩) (0, 0) _ rfl HR.out.2 Tryz.underlying162 rfl (by kernel_rfl)) rfl ?_
              exact ⟨HR.out.1, 0, ⟨q1.x, q1.y, q1.len - (e.x + e.len - q1.x)⟩, rfl, Or.inl rfl, fun _ => h3, fun h => absurd rfl h, fun h => by omega⟩
            · have hsb : Sub ⟨q1.x + (e.x + e.len - q1.x), q1.y + (e.x + e.len - q1.x), q1.len - (e.x + e.len - q1.x)⟩ q1 := by
                refine ⟨(e.x + e.len - q1.x), by omega, ?_, ?_, ?_, ?_⟩ <;> (dsimp only <;> omega)
              have HSB := Lib.hid (hsb.trans HSQ.out)
              clear hsb
              go_wp2_with fail
              go_meet
              exact ⟨⟨q1.x + (e.x + e.len - q1.x), q1.y + (e.x + e.len - q1.x), q1.len - (e.x + e.len - q1.x)⟩, HSB, ⟨((HW.out.set (q' := ⟨q1.x, q1.y, q1.len - (e.x + e.len - q1.x)⟩) 2 _ rfl).set (q' := ⟨q1.x + (e.x + e.len - q1.x), q1.y, q1.len - (e.x + e.len - q1.x)⟩) 0 _ rfl).set 1 _ rfl⟩⟩
        case rest =>
          obtain ⟨q2, HSQ, HW⟩ := hcut
          clear HBC
          have ce0 : wc.cell? ⟨W.heap.size, 0, none⟩ = some (.int .i64 e.x) := (blk_cell HW.out.be 0).trans rfl
          have ce1 : wc.cell? ⟨W.heap.size, 1, none⟩ = some (.int .i64 e.y) := (blk_cell HW.out.be 1).trans rfl
          have ce2 : wc.cell? ⟨W.heap.size, 2, none⟩ = some (.int .i64 e.len) := (blk_cell HW.out.be 2).trans rfl
          have cq0 : wc.cell? ⟨W.heap.size + 1, 0, none⟩ = some (.int .i64 q2.x) := (blk_cell HW.out.bq 0).trans rfl
          have cq1 : wc.cell? ⟨W.heap.size + 1, 1, none⟩ = some (.int .i64 q2.y) := (blk_cell HW.out.bq 1).trans rfl
          have cq2 : wc.cell? ⟨W.heap.size + 1, 2, none⟩ = some (.int .i64 q2.len) := (blk_cell HW.out.bq 2).trans rfl
          have fq0 : wc.frozen? ⟨W.heap.size + 1, 0, none⟩ = false := blk_frozen HW.out.bq 0
          have fq1 : wc.frozen? ⟨W.heap.size + 1, 1, none⟩ = false := blk_frozen HW.out.bq 1
          have fq2 : wc.frozen? ⟨W.heap.size + 1, 2, none⟩ = false := blk_frozen HW.out.bq 2
          obtain ⟨z, hz⟩ := HW.out.br
          have cz0 : wc.cell? ⟨W.heap.size + 1 + 1, 0, none⟩ = some (.int .i64 z.x) := (blk_cell hz 0).trans rfl
          have cz1 : wc.cell? ⟨W.heap.size + 1 + 1, 1, none⟩ = some (.int .i64 z.y) := (blk_cell hz 1).trans rfl
          have cz2 : wc.cell? ⟨W.heap.size + 1 + 1, 2, none⟩ = some (.int .i64 z.len) := (blk_cell hz 2).trans rfl
          have fz0 : wc.frozen? ⟨W.heap.size + 1 + 1, 0, none⟩ = false := blk_frozen hz 0
          have fz1 : wc.frozen? ⟨W.heap.size + 1 + 1, 1, none⟩ = false := blk_frozen hz 1
          have fz2 : wc.frozen? ⟨W.heap.size + 1 + 1, 2, none⟩ = false := blk_frozen hz 2
          have HZ := Aside0.mk hz
          clear hz
          obtain ⟨g1, g2, g3, g4, g5, g6⟩ := sub_bnd HSQ.out hp
          go_upto_region 13 with fail
          go_cut [98] from 84 to 98 (fun v w => ∃ b : Bool, v = .bool b ∧ Hid (b = true → q2.y ≤ e.y ∧ e.y < q2.y + q2.len) ∧ Aside0 (OvW W e q2 w))
          case first =>
            by_cases h1 : q2.y ≤ e.y
            · by_cases h2 : e.y < q2.y + q2.len
              · go_wp2_with fail
                go_meet
                exact ⟨true, rfl, Lib.hid (fun _ => ⟨h1, h2⟩), HW⟩
              · go_wp2_with fail
                go_meet
                exact ⟨false, rfl, Lib.hid (fun h => by cases h), HW⟩
            · go_wp2_with fail
              go_meet
              exact ⟨false, rfl, Lib.hid (fun h => by cases h), HW⟩
          case rest =>
            obtain ⟨b, rfl, HBC, HW⟩ := hcut
            have ce0 : wc.cell? ⟨W.heap.size, 0, none⟩ = some (.int .i64 e.x) := (blk_cell HW.out.be 0).trans rfl
            have ce1 : wc.cell? ⟨W.heap.size, 1, none⟩ = some (.int .i64 e.y) := (blk_cell HW.out.be 1).trans rfl
            have ce2 : wc.cell? ⟨W.heap.size, 2, none⟩ = some (.int .i64 e.len) := (blk_cell HW.out.be 2).trans rfl
            have cq0 : wc.cell? ⟨W.heap.size + 1, 0, none⟩ = some (.int .i64 q2.x) := (blk_cell HW.out.bq 0).trans rfl
            have cq1 : wc.cell? ⟨W.heap.size + 1, 1, none⟩ = some (.int .i64 q2.y) := (blk_cell HW.out.bq 1).trans rfl
            have cq2 : wc.cell? ⟨W.heap.size + 1, 2, none⟩ = some (.int .i64 q2.len) := (blk_cell HW.out.bq 2).trans rfl
            have fq0 : wc.frozen? ⟨W.heap.size + 1, 0, none⟩ = false := blk_frozen HW.out.bq 0
            have fq1 : wc.frozen? ⟨W.heap.size + 1, 1, none⟩ = false := blk_frozen HW.out.bq 1
            have fq2 : wc.frozen? ⟨W.heap.size + 1, 2, none⟩ = false := blk_frozen HW.out.bq 2
            obtain ⟨z, hz⟩ := HW.out.br
            have cz0 : wc.cell? ⟨W.heap.size + 1 + 1, 0, none⟩ = some (.int .i64 z.x) := (blk_cell hz 0).trans rfl
            have cz1 : wc.cell? ⟨W.heap.size + 1 + 1, 1, none⟩ = some (.int .i64 z.y) := (blk_cell hz 1).trans rfl
            have cz2 : wc.cell? ⟨W.heap.size + 1 + 1, 2, none⟩ = some (.int .i64 z.len) := (blk_cell hz 2).trans rfl
            have fz0 : wc.frozen? ⟨W.heap.size + 1 + 1, 0, none⟩ = false := blk_frozen hz 0
            have fz1 : wc.frozen? ⟨W.heap.size + 1 + 1, 1, none⟩ = false := blk_frozen hz 1
            have fz2 : wc.frozen? ⟨W.heap.size + 1 + 1, 2, none⟩ = false := blk_frozen hz 2
            have HZ := Aside0.mk hz
            clear hz
            obtain ⟨g1, g2, g3, g4, g5, g6⟩ := sub_bnd HSQ.out hp
            go_upto_if 98 with fail
            go_cut [8] from 8 to 115 (fun v w => ∃ q : Dg, Hid (Sub q p) ∧ Aside0 (OvW W e q w))
            case first =>
              cases b with
              | false =>
                go_wp2_with fail
                go_meet
                exact ⟨q2, HSQ, HW⟩
              | true =>
                obtain ⟨h1, h2⟩ := HBC.out rfl
                by_cases h3 : q2.len - (q2.y + q2.len - e.y) ≤ 0
                · go_wp2_with fail
                  go_region
                  go_wp2_with fail
                  have HR := Aside0.mk (OvW.ret (HW.out.set (q' := ⟨q2.x, q2.y, q2.len - (q2.y + q2.len - e.y)⟩) 2 _ rfl))
                  refine bodyPost_ret (results_tc rfl _ _ (W.heap.size + 1 + 1) 162 (cellsA ⟨q2.x, q2.y, q2.len - (q2.y + q2.len - e.y)⟩) (0, 0) _ rfl HR.out.2 Tryz.underlying162 rfl (by kernel_rfl)) rfl ?_
                  exact ⟨HR.out.1, 0, ⟨q2.x, q2.y, q2.len - (q2.y + q2.len - e.y)⟩, rfl, Or.inl rfl, fun _ => h3, fun h => absurd rfl h, fun h => by omega⟩
                · have hsb : Sub ⟨q2.x, q2.y, q2.len - (q2.y + q2.len - e.y)⟩ q2 := by
                    refine ⟨0, by omega, ?_, ?_, ?_, ?_⟩ <;> (dsimp only <;> omega)
                  have HSB := Lib.hid (hsb.trans HSQ.out)
                  clear hsb
                  go_wp2_with fail
                  go_meet
                  exact ⟨⟨q2.x, q2.y, q2.len - (q2.y + q2.len - e.y)⟩, HSB, ⟨HW.out.set 2 _ rfl⟩⟩
            case rest =>
              obtain ⟨q3, HSQ, HW⟩ := hcut
              clear HBC
              have ce0 : wc.cell? ⟨W.heap.size, 0, none⟩ = some (.int .i64 e.x) := (blk_cell HW.out.be 0).trans rfl
              have ce1 : wc.cell? ⟨W.heap.size, 1, none⟩ = some (.int .i64 e.y) := (blk_cell HW.out.be 1).trans rfl
              have ce2 : wc.cell? ⟨W.heap.size, 2, none⟩ = some (.int .i64 e.len) := (blk_cell HW.out.be 2).trans rfl
              have cq0 : wc.cell? ⟨W.heap.size + 1, 0, none⟩ = some (.int .i64 q3.x) := (blk_cell HW.out.bq 0).trans rfl
              have cq1 : wc.cell? ⟨W.heap.size + 1, 1, none⟩ = some (.int .i64 q3.y) := (blk_cell HW.out.bq 1).trans rfl
              have cq2 : wc.cell? ⟨W.heap.size + 1, 2, none⟩ = some (.int .i64 q3.len) := (blk_cell HW.out.bq 2).trans rfl
              have fq0 : wc.frozen? ⟨W.heap.size + 1, 0, none⟩ = false := blk_frozen HW.out.bq 0
              have fq1 : wc.frozen? ⟨W.heap.size + 1, 1, none⟩ = false := blk_frozen HW.out.bq 1
              have fq2 : wc.frozen? ⟨W.heap.size + 1, 2, none⟩ = false := blk_frozen HW.out.bq 2
              obtain ⟨z, hz⟩ := HW.out.br
              have cz0 : wc.cell? ⟨W.heap.size + 1 + 1, 0, none⟩ = some (.int .i64 z.x) := (blk_cell hz 0).trans rfl
              have cz1 : wc.cell? ⟨W.heap.size + 1 + 1, 1, none⟩ = some (.int .i64 z.y) := (blk_cell hz 1).trans rfl
              have cz2 : wc.cell? ⟨W.heap.size + 1 + 1, 2, none⟩ = some (.int .i64 z.len) := (blk_cell hz 2).trans rfl
              have fz0 : wc.frozen? ⟨W.heap.size + 1 + 1, 0, none⟩ = false := blk_frozen hz 0
              have fz1 : wc.frozen? ⟨W.heap.size + 1 + 1, 1, none⟩ = false := blk_frozen hz 1
              have fz2 : wc.frozen? ⟨W.heap.size + 1 + 1, 2, none⟩ = false := blk_frozen hz 2
              have HZ := Aside0.mk hz
              clear hz
              obtain ⟨g1, g2, g3, g4, g5, g6⟩ := sub_bnd HSQ.out hp
              go_upto_region 18 with fail
              go_cut [130] from 116 to 130 (fun v w => ∃ b : Bool, v = .bool b ∧ Hid (b = true → e.y ≤ q3.y ∧ q3.y < e.y + e.len) ∧ Aside0 (OvW W e q3 w))
              case first =>
                by_cases h1 : e.y ≤ q3.y
                · by_cases h2 : q3.y < e.y + e.len
                  · go_wp2_with fail
                    go_meet
                    exact ⟨true, rfl, Lib.hid (fun _ => ⟨h1, h2⟩), HW⟩
                  · go_wp2_with fail
                    go_meet
                    exact ⟨false, rfl, Lib.hid (fun h => by cases h), HW⟩
                · go_wp2_with fail
                  go_meet
                  exact ⟨false, rfl, Lib.hid (fun h => by cases h), HW⟩
              case rest =>
                obtain ⟨b, rfl, HBC, HW⟩ := hcut
                have ce0 : wc.cell? ⟨W.heap.size, 0, none⟩ = some (.int .i64 e.x) := (blk_cell HW.out.be 0).trans rfl
                have ce1 : wc.cell? ⟨W.heap.size, 1, none⟩ = some (.int .i64 e.y) := (blk_cell HW.out.be 1).trans rfl
                have ce2 : wc.cell? ⟨W.heap.size, 2, none⟩ = some (.int .i64 e.len) := (blk_cell HW.out.be 2).trans rfl
                have cq0 : wc.cell? ⟨W.heap.size + 1, 0, none⟩ = some (.int .i64 q3.x) := (blk_cell HW.out.bq 0).trans rfl
                have cq1 : wc.cell? ⟨W.heap.size + 1, 1, none⟩ = some (.int .i64 q3.y) := (blk_cell HW.out.bq 1).trans rfl
                have cq2 : wc.cell? ⟨W.heap.size + 1, 2, none⟩ = some (.int .i64 q3.len) := (blk_cell HW.out.bq 2).trans rfl
                have fq0 : wc.frozen? ⟨W.heap.size + 1, 0, none⟩ = false := blk_frozen HW.out.bq 0
                have fq1 : wc.frozen? ⟨W.heap.size + 1, 1, none⟩ = false := blk_frozen HW.out.bq 1
                have fq2 : wc.frozen? ⟨W.heap.size + 1, 2, none⟩ = false := blk_frozen HW.out.bq 2
                obtain ⟨z, hz⟩ := HW.out.br
                have cz0 : wc.cell? ⟨W.heap.size + 1 + 1, 0, none⟩ = some (.int .i64 z.x) := (blk_cell hz 0).trans rfl
                have cz1 : wc.cell? ⟨W.heap.size + 1 + 1, 1, none⟩ = some (.int .i64 z.y) := (blk_cell hz 1).trans rfl
                have cz2 : wc.cell? ⟨W.heap.size + 1 + 1, 2, none⟩ = some (.int .i64 z.len) := (blk_cell hz 2).trans rfl
                have fz0 : wc.frozen? ⟨W.heap.size + 1 + 1, 0, none⟩ = false := blk_frozen hz 0
                have fz1 : wc.frozen? ⟨W.heap.size + 1 + 1, 1, none⟩ = false := blk_frozen hz 1
                have fz2 : wc.frozen? ⟨W.heap.size + 1 + 1, 2, none⟩ = false := blk_frozen hz 2
                have HZ := Aside0.mk hz
                clear hz
                obtain ⟨g1, g2, g3, g4, g5, g6⟩ := sub_bnd HSQ.out hp
                go_upto_if 130 with fail
                go_cut [9] from 9 to 157 (fun v w => ∃ q : Dg, Hid (Sub q p) ∧ Aside0 (OvW W e q w))
                case first =>
                  cases b with
                  | false =>
                    go_wp2_with fail
                    go_meet
                    exact ⟨q3, HSQ, HW⟩
                  | true =>
                    obtain ⟨h1, h2⟩ := HBC.out rfl
                    by_cases h3 : q3.len - (e.y + e.len - q3.y) ≤ 0
                    · go_wp2_with fail
                      go_region
                      go_wp2_with fail
                      have HR := Aside0.mk (OvW.ret (HW.out.set (q' := ⟨q3.x, q3.y, q3.len - (e.y + e.len - q3.y)⟩) 2 _ rfl))
                      refine bodyPost_ret (results_tc rfl _ _ (W.heap.size + 1 + 1) 162 (cellsA ⟨q3.x, q3.y, q3.len - (e.y + e.len - q3.y)⟩) (0, 0) _ rfl HR.out.2 Tryz.underlying162 rfl (by kernel_rfl)) rfl ?_
                      exact ⟨HR.out.1, 0, ⟨q3.x, q3.y, q3.len - (e.y + e.len - q3.y)⟩, rfl, Or.inl rfl, fun _ => h3, fun h => absurd rfl h, fun h => by omega⟩
                    · have hsb : Sub ⟨q3.x + (e.y + e.len - q3.y), q3.y + (e.y + e.len - q3.y), q3.len - (e.y + e.len - q3.y)⟩ q3 := by
                        refine ⟨(e.y + e.len - q3.y), by omega, ?_, ?_, ?_, ?_⟩ <;> (dsimp only <;> omega)
                      have HSB := Lib.hid (hsb.trans HSQ.out)
                      clear hsb
                      go_wp2_with fail
                      go_meet
                      exact ⟨⟨q3.x + (e.y + e.len - q3.y), q3.y + (e.y + e.len - q3.y), q3.len - (e.y + e.len - q3.y)⟩, HSB, ⟨((HW.out.set (q' := ⟨q3.x, q3.y, q3.len - (e.y + e.len - q3.y)⟩) 2 _ rfl).set (q' := ⟨q3.x + (e.y + e.len - q3.y), q3.y, q3.len - (e.y + e.len - q3.y)⟩) 0 _ rfl).set 1 _ rfl⟩⟩
                case rest =>
                  obtain ⟨q4, HSQ, HW⟩ := hcut
                  clear HBC
                  have ce0 : wc.cell? ⟨W.heap.size, 0, none⟩ = some (.int .i64 e.x) := (blk_cell HW.out.be 0).trans rfl
                  have ce1 : wc.cell? ⟨W.heap.size, 1, none⟩ = some (.int .i64 e.y) := (blk_cell HW.out.be 1).trans rfl
                  have ce2 : wc.cell? ⟨W.heap.size, 2, none⟩ = some (.int .i64 e.len) := (blk_cell HW.out.be 2).trans rfl
                  have cq0 : wc.cell? ⟨W.heap.size + 1, 0, none⟩ = some (.int .i64 q4.x) := (blk_cell HW.out.bq 0).trans rfl
                  have cq1 : wc.cell? ⟨W.heap.size + 1, 1, none⟩ = some (.int .i64 q4.y) := (blk_cell HW.out.bq 1).trans rfl
                  have cq2 : wc.cell? ⟨W.heap.size + 1, 2, none⟩ = some (.int .i64 q4.len) := (blk_cell HW.out.bq 2).trans rfl
                  have fq0 : wc.frozen? ⟨W.heap.size + 1, 0, none⟩ = false := blk_frozen HW.out.bq 0
                  have fq1 : wc.frozen? ⟨W.heap.size + 1, 1, none⟩ = false := blk_frozen HW.out.bq 1
                  have fq2 : wc.frozen? ⟨W.heap.size + 1, 2, none⟩ = false := blk_frozen HW.out.bq 2
                  obtain ⟨z, hz⟩ := HW.out.br
                  have cz0 : wc.cell? ⟨W.heap.size + 1 + 1, 0, none⟩ = some (.int .i64 z.x) := (blk_cell hz 0).trans rfl
                  have cz1 : wc.cell? ⟨W.heap.size + 1 + 1, 1, none⟩ = some (.int .i64 z.y) := (blk_cell hz 1).trans rfl
                  have cz2 : wc.cell? ⟨W.heap.size + 1 + 1, 2, none⟩ = some (.int .i64 z.len) := (blk_cell hz 2).trans rfl
                  have fz0 : wc.frozen? ⟨W.heap.size + 1 + 1, 0, none⟩ = false := blk_frozen hz 0
                  have fz1 : wc.frozen? ⟨W.heap.size + 1 + 1, 1, none⟩ = false := blk_frozen hz 1
                  have fz2 : wc.frozen? ⟨W.heap.size + 1 + 1, 2, none⟩ = false := blk_frozen hz 2
                  have HZ := Aside0.mk hz
                  clear hz
                  obtain ⟨g1, g2, g3, g4, g5, g6⟩ := sub_bnd HSQ.out hp
                  by_cases a1 : q4.x + q4.len ≤ e.x
                  · by_cases a2 : q4.y + q4.len ≤ e.y
                    · go_wp2_with fail
                      go_region
                      go_wp2_with fail
                      have HR := Aside0.mk (OvW.ret (HW.out))
                      refine bodyPost_ret (results_tc rfl _ _ (W.heap.size + 1 + 1) 162 (cellsA ⟨q4.x, q4.y, q4.len⟩) (0, 0) _ rfl HR.out.2 Tryz.underlying162 rfl (by kernel_rfl)) rfl ?_
                      exact ⟨HR.out.1, 1, ⟨q4.x, q4.y, q4.len⟩, rfl, Or.inr (Or.inl rfl), fun h => by omega, fun _ => HSQ.out, fun _ => Or.inl ⟨a1, a2⟩⟩
                    · have b1 : ¬ (e.x + e.len ≤ q4.x) := by omega
                      go_wp2_with fail
                      go_region
                      go_wp2_with fail
                      have HR := Aside0.mk (OvW.ret (HW.out))
                      refine bodyPost_ret (results_tc rfl _ _ (W.heap.size + 1 + 1) 162 (cellsA ⟨q4.x, q4.y, q4.len⟩) (0, 0) _ rfl HR.out.2 Tryz.underlying162 rfl (by kernel_rfl)) rfl ?_
                      exact ⟨HR.out.1, 3, ⟨q4.x, q4.y, q4.len⟩, rfl, Or.inr (Or.inr (Or.inr rfl)), fun h => by omega, fun _ => HSQ.out, fun h => by omega⟩
                  · by_cases b1 : e.x + e.len ≤ q4.x
                    · by_cases b2 : e.y + e.len ≤ q4.y
                      · go_wp2_with fail
                        go_region
                        go_wp2_with fail
                        have HR := Aside0.mk (OvW.ret (HW.out))
                        refine bodyPost_ret (results_tc rfl _ _ (W.heap.size + 1 + 1) 162 (cellsA ⟨q4.x, q4.y, q4.len⟩) (0, 0) _ rfl HR.out.2 Tryz.underlying162 rfl (by kernel_rfl)) rfl ?_
                        exact ⟨HR.out.1, 2, ⟨q4.x, q4.y, q4.len⟩, rfl, Or.inr (Or.inr (Or.inl rfl)), fun h => by omega, fun _ => HSQ.out, fun _ => Or.inr ⟨b1, b2⟩⟩
                      · go_wp2_with fail
                        go_region
                        go_wp2_with fail
                        have HR := Aside0.mk (OvW.ret (HW.out))
                        refine bodyPost_ret (results_tc rfl _ _ (W.heap.size + 1 + 1) 162 (cellsA ⟨q4.x, q4.y, q4.len⟩) (0, 0) _ rfl HR.out.2 Tryz.underlying162 rfl (by kernel_rfl)) rfl ?_
                        exact ⟨HR.out.1, 3, ⟨q4.x, q4.y, q4.len⟩, rfl, Or.inr (Or.inr (Or.inr rfl)), fun h => by omega, fun _ => HSQ.out, fun h => by omega⟩
                    · go_wp2_with fail
                      go_region
                      go_wp2_with fail
                      have HR := Aside0.mk (OvW.ret (HW.out))
                      refine bodyPost_ret (results_tc rfl _ _ (W.heap.size + 1 + 1) 162 (cellsA ⟨q4.x, q4.y, q4.len⟩) (0, 0) _ rfl HR.out.2 Tryz.underlying162 rfl (by kernel_rfl)) rfl ?_
                      exact ⟨HR.out.1, 3, ⟨q4.x, q4.y, q4.len⟩, rfl, Or.inr (Or.inr (Or.inr rfl)), fun h => by omega, fun _ => HSQ.out, fun h => by omega⟩
end Go.Proofs.YtonajgipkpnpoaaGreatDoor.Gr
namespace Go.Proofs.YtonajgipkpnpoaaGreatDoor.Gr
open Go.RowKit Go.Proofs.YtonajgipkpnpoaaGreatDoorW.PrintWords Go.Myers
def RdL (W : World) (b o n : Nat) (f : Nat → ByteArray) : Prop := ∀ i, i < n → W.cell? ⟨b, o + i, none⟩ = some (.string (f i))
theorem RdL.drew {W : World} {b o n : Nat} {f : Nat → ByteArray} (h : RdL W b o n f) (q : Nat) : RdL (W.drewN q) b o n f := fun i hi => by
  have := h i hi
  simpa using this
section
set_option maxRecDepth 100000 in
theorem cslL (W : World) (b1 o1 n1 c1 b2 o2 n2 c2 : Nat) (f g : Nat → ByteArray) (hf : RdL W b1 o1 n1 f) (hg : RdL W b2 o2 n2 g) (h1 : n1 ≤ 1099511627776) (h2 : n2 ≤ 1099511627776) :
    Calls Tryz.prog 175 #[.slice (some ⟨b1, o1, none⟩) n1 c1, .slice (some ⟨b2, o2, none⟩) n2 c2] W fun e w' => e = .returned (.int .i64 (suf (fun i j => (f i).toList == (g j).toList) n1 n2 : Nat)) ∧ ∃ q, w' = W.drewN q := by
  go_enter Tryz.func175, Tryz.ntmps175
  go_wp2
  all_goals
    go_loopw [6] (fun v6 wr => ∃ i q : Nat, v6 = .int .i64 i ∧ i ≤ min n1 n2 ∧ Hid (i ≤ suf (fun i j => (f i).toList == (g j).toList) n1 n2) ∧ wr = W.drewN q) (fun v6 _ => n1 - (intOf v6).toNat)
    case atStart => exact ⟨0, 0, rfl, by omega, Lib.hid (Nat.zero_le _), rfl⟩
    case round =>
      obtain ⟨i, q, rfl, hi, HI, rfl⟩ := hrel
      by_cases hlt : i < min n1 n2
      · have hl1 : i < n1 := by omega
        have hl2 : i < n2 := by omega
        have e1 : ((n1 : Int) - 1 - i).toNat = n1 - 1 - i := by omega
        have e2 : ((n2 : Int) - 1 - i).toNat = n2 - 1 - i := by omega
        have c1 := hf (n1 - 1 - i) (by omega)
        have c2 := hg (n2 - 1 - i) (by omega)
        have b1 : (0 : Int) ≤ (n1 : Int) - 1 - i := by omega
        have b2 : (0 : Int) ≤ (n2 : Int) - 1 - i := by omega
        have b3 : (n1 : Int) - 1 - i < n1 := by omega
        have b4 : (n2 : Int) - 1 - i < n2 := by omega
        have HLT := Lib.hid hlt
        cases hE : (f (n1 - 1 - i)).toList == (g (n2 - 1 - i)).toList with
        | true =>
          have HE := Lib.hid (hE)
          clear hf hg hi hlt
          go_wp2_with fail
          go_quiet (fail)
          go_wp2
          go_roundw
          case rel => exact ⟨i + 1, _, by go_num, by have := HLT.out; omega, Lib.hid (suf_step HI.out (by omega) (by omega) (HE.out)), rfl⟩
          case measure => simp [intOf]; omega
        | false =>
          have HE := Lib.hid (hE)
          clear hf hg hi hlt
          go_wp2_with fail
          go_quiet (fail)
          go_wp2
          go_ret
          exact ⟨by rw [suf_stop HI.out (Or.inr (HE.out))]; rfl, _, World.drewN_drewN _ _ _⟩
      · obtain him : i = min n1 n2 := by omega
        have HM := Lib.hid him
        first | (have hd : decide (i < n1) = false := decide_eq_false (by omega)) | (have hd : decide (i < n2) = false := decide_eq_false (by omega))
        clear hf hg him hi hlt
        go_wp2_with fail
        go_quiet (fail)
        go_wp2
        go_ret
        exact ⟨by rw [suf_stop HI.out (Or.inl HM.out)]; rfl, _, World.drewN_drewN _ _ _⟩
theorem mir_atL {f g : Nat → ByteArray} {n1 n2 i : Nat} {b : Bool} (h1 : i < n1) (h2 : i < n2) (h : ((f i).toList == (g i).toList) = b) : mir (fun i j => (f i).toList == (g j).toList) n1 n2 (n1 - 1 - i) (n2 - 1 - i) = b := by
  unfold mir
  show ((f (n1 - 1 - (n1 - 1 - i))).toList == (g (n2 - 1 - (n2 - 1 - i))).toList) = b
  rw [show n1 - 1 - (n1 - 1 - i) = i by omega, show n2 - 1 - (n2 - 1 - i) = i by omega]; exact h
set_option maxRecDepth 100000 in
theorem cplL (W : World) (b1 o1 n1 c1 b2 o2 n2 c2 : Nat) (f g : Nat → ByteArray) (hf : RdL W b1 o1 n1 f) (hg : RdL W b2 o2 n2 g) (h1 : n1 ≤ 1099511627776) (h2 : n2 ≤ 1099511627776) :
    Calls Tryz.prog 174 #[.slice (some ⟨b1, o1, none⟩) n1 c1, .slice (some ⟨b2, o2, none⟩) n2 c2] W fun e w' => e = .returned (.int .i64 (suf (mir (fun i j => (f i).toList == (g j).toList) n1 n2) n1 n2 : Nat)) ∧ ∃ q, w' = W.drewN q := by
  go_enter Tryz.func174, Tryz.ntmps174
  go_wp2
  all_goals
    go_loopw [6] (fun v6 wr => ∃ i q : Nat, v6 = .int .i64 i ∧ i ≤ min n1 n2 ∧ Hid (i ≤ suf (mir (fun i j => (f i).toList == (g j).toList) n1 n2) n1 n2) ∧ wr = W.drewN q) (fun v6 _ => n1 - (intOf v6).toNat)
    case atStart => exact ⟨0, 0, rfl, by omega, Lib.hid (Nat.zero_le _), rfl⟩
    case round =>
      obtain ⟨i, q, rfl, hi, HI, rfl⟩ := hrel
      by_cases hlt : i < min n1 n2
      · have hl1 : i < n1 := by omega
        have hl2 : i < n2 := by omega
        have c1 := hf i (by omega)
        have c2 := hg i (by omega)
        have HLT := Lib.hid hlt
        cases hE : (f i).toList == (g i).toList with
        | true =>
          have HE := Lib.hid (hE)
          clear hf hg hi hlt
          go_wp2_with fail
          go_quiet (fail)
          go_wp2
          go_roundw
          case rel => exact ⟨i + 1, _, by go_num, by have := HLT.out; omega, Lib.hid (suf_step HI.out (by omega) (by omega) (mir_atL hl1 hl2 HE.out)), rfl⟩
          case measure => simp [intOf]; omega
        | false =>
          have HE := Lib.hid (hE)
          clear hf hg hi hlt
          go_wp2_with fail
          go_quiet (fail)
          go_wp2
          go_ret
          exact ⟨by rw [suf_stop HI.out (Or.inr (mir_atL hl1 hl2 HE.out))]; rfl, _, World.drewN_drewN _ _ _⟩
      · obtain him : i = min n1 n2 := by omega
        have HM := Lib.hid him
        first | (have hd : decide (i < n1) = false := decide_eq_false (by omega)) | (have hd : decide (i < n2) = false := decide_eq_false (by omega))
        clear hf hg him hi hlt
        go_wp2_with fail
        go_quiet (fail)
        go_wp2
        go_ret
        exact ⟨by rw [suf_stop HI.out (Or.inl HM.out)]; rfl, _, World.drewN_drewN _ _ _⟩
set_option maxRecDepth 100000 in
theorem csl_seqsL (W : World) (b1 o1 n1 c1 b2 o2 n2 c2 : Nat) (f g : Nat → ByteArray) (hf : RdL W b1 o1 n1 f) (hg : RdL W b2 o2 n2 g) (h1 : n1 ≤ 1099511627776) (h2 : n2 ≤ 1099511627776) (hc1 : n1 ≤ c1) (hc2 : n2 ≤ c2) (x y : Nat) (hx : x ≤ n1) (hy : y ≤ n2) (hx0 : 0 < x) (hy0 : 0 < y) :
    Calls Tryz.prog 172 #[.agg #[.slice (some ⟨b1, o1, none⟩) n1 c1, .slice (some ⟨b2, o2, none⟩) n2 c2], .int .i64 0, .int .i64 x, .int .i64 0, .int .i64 y] W fun e w' => e = .returned (.int .i64 (suf (fun i j => (f i).toList == (g j).toList) x y : Nat)) ∧ ∃ o q, w' = (W.alloc o).drewN q := by
  go_enter Tryz.func172, Tryz.ntmps172
  have hfa : ∀ o q, RdL ((W.alloc o).drewN q) b1 o1 x f := fun o q => RdL.drew (fun i hi => Lib.cell?_alloc_some o (hf i (by omega))) q
  have hga : ∀ o q, RdL ((W.alloc o).drewN q) b2 o2 y g := fun o q => RdL.drew (fun i hi => Lib.cell?_alloc_some o (hg i (by omega))) q
  have hx1 : x ≤ 1099511627776 := by omega
  have hy1 : y ≤ 1099511627776 := by omega
  have hxc : x ≤ c1 := by omega
  have hyc : y ≤ c2 := by omega
  clear hf hg
  go_wp2_with fail
  go_quiet ((go_at_call 175; exact Calls.quiet_of (cslL _ b1 o1 x _ b2 o2 y _ f g (hfa _ _) (hga _ _) hx1 hy1)))
  go_wp2
  go_ret
  exact ⟨rfl, _, _, rfl⟩
set_option maxRecDepth 100000 in
theorem cpl_seqsL (W : World) (b1 o1 n1 c1 b2 o2 n2 c2 : Nat) (f g : Nat → ByteArray) (hf : RdL W b1 o1 n1 f) (hg : RdL W b2 o2 n2 g) (h1 : n1 ≤ 1099511627776) (h2 : n2 ≤ 1099511627776) (hc1 : n1 ≤ c1) (hc2 : n2 ≤ c2) (x y X Y : Nat) (hx : x < X) (hX : X ≤ n1) (hy : y < Y) (hY : Y ≤ n2) :
    Calls Tryz.prog 171 #[.agg #[.slice (some ⟨b1, o1, none⟩) n1 c1, .slice (some ⟨b2, o2, none⟩) n2 c2], .int .i64 x, .int .i64 X, .int .i64 y, .int .i64 Y] W fun e w' => e = .returned (.int .i64 (suf (mir (fun i j => (f i).toList == (g j).toList) X Y) (X - x) (Y - y) : Nat)) ∧ ∃ o q, w' = (W.alloc o).drewN q := by
  have hcong : suf (mir (fun i j => (f i).toList == (g j).toList) X Y) (X - x) (Y - y) = suf (mir (fun i j => ((fun i => f (x + i)) i).toList == ((fun i => g (y + i)) j).toList) (X - x) (Y - y)) (X - x) (Y - y) := suf_congr _ _ (fun i j hi hj => by
    unfold mir
    show ((f (X - 1 - i)).toList == (g (Y - 1 - j)).toList) = ((f (x + (X - x - 1 - i))).toList == (g (y + (Y - y - 1 - j))).toList)
    rw [show x + (X - x - 1 - i) = X - 1 - i by omega, show y + (Y - y - 1 - j) = Y - 1 - j by omega])
  rw [hcong]
  clear hcong
  have hfa : ∀ o q, RdL ((W.alloc o).drewN q) b1 (o1 + x) (X - x) (fun i => f (x + i)) := fun o q => RdL.drew (fun i hi => Lib.cell?_alloc_some o (by rw [Nat.add_assoc]; exact hf (x + i) (by omega))) q
  have hga : ∀ o q, RdL ((W.alloc o).drewN q) b2 (o2 + y) (Y - y) (fun i => g (y + i)) := fun o q => RdL.drew (fun i hi => Lib.cell?_alloc_some o (by rw [Nat.add_assoc]; exact hg (y + i) (by omega))) q
  have hcall : ∀ o q c3 c4, Calls Tryz.prog 174 #[.slice (some ⟨b1, o1 + x, none⟩) (X - x) c3, .slice (some ⟨b2, o2 + y, none⟩) (Y - y) c4] ((W.alloc o).drewN q) _ := fun o q c3 c4 => cplL _ b1 (o1 + x) (X - x) c3 b2 (o2 + y) (Y - y) c4 _ _ (hfa o q) (hga o q) (by omega) (by omega)
  have hXc : X ≤ c1 := by omega
  have hYc : Y ≤ c2 := by omega
  have hx1 : x ≤ X := by omega
  have hy1 : y ≤ Y := by omega
  have hxn : x < c1 := by omega
  have hyn : y < c2 := by omega
  have hX1 : X ≤ 1099511627776 := by omega
  have hY1 : Y ≤ 1099511627776 := by omega
  clear hf hg hfa hga
  go_enter Tryz.func171, Tryz.ntmps171
  go_wp2_with fail
  go_quiet ((go_at_call 174; exact Calls.quiet_of (hcall _ _ _ _)))
  go_wp2
  go_ret
  exact ⟨rfl, _, _, rfl⟩
set_option maxRecDepth 100000 in
theorem len_seqsL (W : World) (A1 A2 : Option Addr) (n1 c1 n2 c2 : Nat) :
    Calls Tryz.prog 173 #[.agg #[.slice A1 n1 c1, .slice A2 n2 c2]] W fun e w' => e = .returned (.tuple #[.int .i64 n1, .int .i64 n2]) ∧ Below W.heap.size W w' := by
  go_enter Tryz.func173, Tryz.ntmps173
  go_wp2_with fail
  go_quiet (fail)
  go_wp2_with fail
  go_ret2
  exact ⟨rfl, by first | exact below_alloc (Below.refl _ _) _ | exact below_drewN (below_alloc (Below.refl _ _) _) _⟩
def RdAL (W : World) (F : Nat → Prop) (A : Option Addr) (n c : Nat) (f : Nat → ByteArray) : Prop := 0 < n → ∃ b o, A = some ⟨b, o, none⟩ ∧ n ≤ c ∧ ¬ F b ∧ b < W.heap.size ∧ RdL W b o n f
theorem RdL.congr {W W' : World} {b o n : Nat} {f : Nat → ByteArray} (h : RdL W b o n f) (he : W'.heap[b]? = W.heap[b]?) : RdL W' b o n f := fun i hi => by
  rw [← h i hi]
  simp [World.cell?, he]
theorem RdAL.step {W W' : World} {F F' : Nat → Prop} {A : Option Addr} {n c : Nat} {f : Nat → ByteArray} (h : RdAL W F A n c f) (hs : Step W W' F F') : RdAL W' F' A n c f := fun hn => by
  obtain ⟨b, o, h1, h2, h3, h4, h5⟩ := h hn
  exact ⟨b, o, h1, h2, fun hf => (hs.new b hf).elim h3 (fun e => by omega), Nat.lt_of_lt_of_le h4 hs.size, h5.congr (hs.keep b h4 h3)⟩
theorem sq_lines {W : World} {F : Nat → Prop} {A1 A2 : Option Addr} {c1 c2 N M : Nat} {f g : Nat → ByteArray} (ha : RdAL W F A1 N c1 f) (hb : RdAL W F A2 M c2 g) (hN : N ≤ 1099511627776) (hM : M ≤ 1099511627776) :
    SQ W F (.iface 103 (.agg #[.slice A1 N c1, .slice A2 M c2])) (fun i j => (f i).toList == (g j).toList) N M := by
  refine ⟨_, _, 173, 171, 172, rfl, fun _ => by kernel_rfl, fun _ => by kernel_rfl, fun _ => by kernel_rfl, fun _ _ => by kernel_rfl, fun _ _ => by kernel_rfl, fun _ _ => by kernel_rfl, fun W' => len_seqsL W' A1 A2 N c1 M c2, fun W' F' hs x y X Y hx hX hy hY => ?_, fun W' F' hs x y hx hX hy hY => ?_, hN, hM⟩
  · obtain ⟨b1, o1, rfl, hc1, _, _, h1⟩ := ha.step hs (by omega)
    obtain ⟨b2, o2, rfl, hc2, _, _, h2⟩ := hb.step hs (by omega)
    exact cpl_seqsL W' b1 o1 N c1 b2 o2 M c2 f g h1 h2 hN hM hc1 hc2 x y X Y hx hX hy hY
  · obtain ⟨b1, o1, rfl, hc1, _, _, h1⟩ := ha.step hs (by omega)
    obtain ⟨b2, o2, rfl, hc2, _, _, h2⟩ := hb.step hs (by omega)
    exact csl_seqsL W' b1 o1 N c1 b2 o2 M c2 f g h1 h2 hN hM hc1 hc2 x y hX hY hx hy
end
end Go.Proofs.YtonajgipkpnpoaaGreatDoor.Gr
