/- The steps of both roads: the labels of the next level; fdone. The road from the start in a box: forward. Printed by wip/gen/genfw.py. -/
import Derived.Test.YtonajgipkpnpoaaGreatDoorC17
namespace Go.Proofs.YtonajgipkpnpoaaGreatDoor.Gr
open Go.RowKit Go.Proofs.YtonajgipkpnpoaaGreatDoorW.PrintWords Go.Myers
set_option linter.unusedVariables false
def K1 (D : Nat) (k : Int) : Prop := k = -((D : Int) + 1)
def K3 (D : Nat) (m k : Int) : Prop := valid (D + 1) k ∧ (k = -((D : Int) + 1) ∨ k = (D : Int) + 1 ∨ k < m)
theorem succ_cast (D : Nat) : ((D + 1 : Nat) : Int) = (D : Int) + 1 := by omega
section
variable {c : Cx} {X Y : Nat} {w : World} {D Df Db : Nat} {Kf Kb : Int → Prop}
theorem qb_low (ho : c.ok) (hD : D ≤ 100000) (h : GS c X Y w Df Kf (D + 1) (fun _ => False)) :
    Calls Tryz.prog 77 #[.pointer (some ⟨c.ge, 0, none⟩), .int .i64 ((D : Int) + 1), .int .i64 (-((D : Int) + 1)), .int .i64 (lab c.E c.N c.dl D (-(D : Int)) - 1)] w fun e w' => e = .returned (.tuple #[]) ∧ GS c X Y w' Df Kf (D + 1) (K1 D) := by
  have hb := lab_bnd ho (D := D) (k := -(D : Int)) ⟨by omega, by omega, by omega⟩ (by omega)
  have := gs_setB (Kb' := K1 D) ho h (-((D : Int) + 1)) (lab c.E c.N c.dl D (-(D : Int)) - 1) ⟨by omega, by omega, by omega⟩ (by omega) ⟨by omega, by omega⟩ (by omega) (by rw [lab_succ, if_pos rfl]) (fun k' h => Or.inr h)
  rwa [succ_cast] at this
theorem qb_high (ho : c.ok) (hD : D ≤ 100000) (h : GS c X Y w Df Kf (D + 1) (K1 D)) :
    Calls Tryz.prog 77 #[.pointer (some ⟨c.ge, 0, none⟩), .int .i64 ((D : Int) + 1), .int .i64 ((D : Int) + 1), .int .i64 (lab c.E c.N c.dl D (D : Int))] w fun e w' => e = .returned (.tuple #[]) ∧ GS c X Y w' Df Kf (D + 1) (K3 D (-(D : Int) + 1)) := by
  have hb := lab_bnd ho (D := D) (k := (D : Int)) ⟨by omega, by omega, by omega⟩ (by omega)
  have := gs_setB (Kb' := K3 D (-(D : Int) + 1)) ho h ((D : Int) + 1) (lab c.E c.N c.dl D (D : Int)) ⟨by omega, by omega, by omega⟩ (by omega) ⟨by omega, by omega⟩ (by omega) (by rw [lab_succ, if_neg (by omega), if_pos rfl])
    (fun k' h => by
      obtain ⟨⟨a, b, p⟩, h | h | h⟩ := h
      · exact Or.inl h
      · exact Or.inr h
      · left; show k' = _; omega)
  rwa [succ_cast] at this
theorem k3_step {k k' : Int} (hk : valid (D + 1) k) (h : K3 D (k + 2) k') : K3 D k k' ∨ k' = k := by
  obtain ⟨p1, p2, p3⟩ := hk
  obtain ⟨hv, h⟩ := h
  by_cases e : k' = k
  · exact Or.inr e
  · left
    refine ⟨hv, ?_⟩
    obtain ⟨q1, q2, q3⟩ := hv
    omega
theorem qb_mid (ho : c.ok) (hD : D ≤ 100000) {k : Int} (hk : valid (D + 1) k) (h1 : -(D : Int) + 1 ≤ k) (h2 : k ≤ (D : Int) - 1) (h : GS c X Y w Df Kf (D + 1) (K3 D k)) {r : Int}
    (hr : (Go.Myers.look c.E c.dl k (lab c.E c.N c.dl D (k - 1)) < Go.Myers.look c.E c.dl k (lab c.E c.N c.dl D (k + 1) - 1) ∧ r = Go.Myers.look c.E c.dl k (lab c.E c.N c.dl D (k - 1))) ∨
      (Go.Myers.look c.E c.dl k (lab c.E c.N c.dl D (k + 1) - 1) ≤ Go.Myers.look c.E c.dl k (lab c.E c.N c.dl D (k - 1)) ∧ r = Go.Myers.look c.E c.dl k (lab c.E c.N c.dl D (k + 1) - 1))) :
    Calls Tryz.prog 77 #[.pointer (some ⟨c.ge, 0, none⟩), .int .i64 ((D : Int) + 1), .int .i64 k, .int .i64 r] w fun e w' => e = .returned (.tuple #[]) ∧ GS c X Y w' Df Kf (D + 1) (K3 D (k + 2)) := by
  have hk' := hk
  obtain ⟨p1, p2, p3⟩ := hk'
  have hl : lab c.E c.N c.dl (D + 1) k = r := by
    rw [lab_succ, if_neg (by omega), if_neg (by omega)]
    rcases hr with ⟨a, b⟩ | ⟨a, b⟩
    · rw [if_pos a, b]
    · rw [if_neg (Int.not_lt.2 a), b]
  have hb := lab_bnd ho hk (by omega)
  have hlk : Go.Myers.look c.E c.dl k r = r := by rcases hr with ⟨_, b⟩ | ⟨_, b⟩ <;> rw [b, look_look]
  have := gs_setB (Kb' := K3 D (k + 2)) ho h k r hk (by omega) (by rw [hl] at hb; omega) (by rw [hl] at hb; omega) (by rw [hlk, hl]) (fun k' h => k3_step hk h)
  rwa [succ_cast] at this
theorem qb_lookv (ho : c.ok) (hD : D ≤ 100000) {k : Int} (hv : valid D (k - 1)) (h : GS c X Y w Df Kf (D + 1) Kb) :
    Calls Tryz.prog 83 #[.pointer (some ⟨c.ge, 0, none⟩), .int .i64 k, .int .i64 (lab c.E c.N c.dl D (k - 1))] w fun e w' => e = .returned (.int .i64 (Go.Myers.look c.E c.dl k (lab c.E c.N c.dl D (k - 1)))) ∧ GS c X Y w' Df Kf (D + 1) Kb := by
  have hb := lab_bnd ho hv (by omega)
  obtain ⟨p1, p2, p3⟩ := hv
  exact gs_lookB ho h k _ ⟨by omega, by omega⟩ ⟨by omega, by omega⟩ (by omega)
theorem qb_lookh (ho : c.ok) (hD : D ≤ 100000) {k : Int} (hv : valid D (k + 1)) (h : GS c X Y w Df Kf (D + 1) Kb) :
    Calls Tryz.prog 83 #[.pointer (some ⟨c.ge, 0, none⟩), .int .i64 k, .int .i64 (lab c.E c.N c.dl D (k + 1) - 1)] w fun e w' => e = .returned (.int .i64 (Go.Myers.look c.E c.dl k (lab c.E c.N c.dl D (k + 1) - 1))) ∧ GS c X Y w' Df Kf (D + 1) Kb := by
  have hb := lab_bnd ho hv (by omega)
  obtain ⟨p1, p2, p3⟩ := hv
  exact gs_lookB ho h k _ ⟨by omega, by omega⟩ ⟨by omega, by omega⟩ (by omega)
theorem qf_low (ho : c.ok) (hX : X ≤ c.N) (hY : Y ≤ c.M) (hD : D ≤ 100000) (h : GS c X Y w (D + 1) (fun _ => False) Db Kb) :
    Calls Tryz.prog 76 #[.pointer (some ⟨c.ge, 0, none⟩), .int .i64 ((D : Int) + 1), .int .i64 (-((D : Int) + 1)), .int .i64 (flab c.E X Y D (-(D : Int)))] w fun e w' => e = .returned (.tuple #[]) ∧ GS c X Y w' (D + 1) (K1 D) Db Kb := by
  have hN := ho.hN
  have hb := flab_bnd (c := c) (X := X) (Y := Y) (D := D) (k := -(D : Int)) ⟨by omega, by omega, by omega⟩ (by omega) (by omega)
  have := gs_setF (Kf' := K1 D) h hX hY (-((D : Int) + 1)) (flab c.E X Y D (-(D : Int))) ⟨by omega, by omega, by omega⟩ (by omega) ⟨by omega, by omega⟩ (by omega) (flab_low c.E X Y D).symm (fun k' h => Or.inr h)
  rwa [succ_cast] at this
theorem qf_high (ho : c.ok) (hX : X ≤ c.N) (hY : Y ≤ c.M) (hD : D ≤ 100000) (h : GS c X Y w (D + 1) (K1 D) Db Kb) :
    Calls Tryz.prog 76 #[.pointer (some ⟨c.ge, 0, none⟩), .int .i64 ((D : Int) + 1), .int .i64 ((D : Int) + 1), .int .i64 (flab c.E X Y D (D : Int) + 1)] w fun e w' => e = .returned (.tuple #[]) ∧ GS c X Y w' (D + 1) (K3 D (-(D : Int) + 1)) Db Kb := by
  have hN := ho.hN
  have hb := flab_bnd (c := c) (X := X) (Y := Y) (D := D) (k := (D : Int)) ⟨by omega, by omega, by omega⟩ (by omega) (by omega)
  have := gs_setF (Kf' := K3 D (-(D : Int) + 1)) h hX hY ((D : Int) + 1) (flab c.E X Y D (D : Int) + 1) ⟨by omega, by omega, by omega⟩ (by omega) ⟨by omega, by omega⟩ (by omega) (flab_high c.E X Y D).symm
    (fun k' h => by
      obtain ⟨⟨a, b, p⟩, h | h | h⟩ := h
      · exact Or.inl h
      · exact Or.inr h
      · left; show k' = _; omega)
  rwa [succ_cast] at this
theorem qf_mid (ho : c.ok) (hX : X ≤ c.N) (hY : Y ≤ c.M) (hD : D ≤ 100000) {k : Int} (hk : valid (D + 1) k) (h1 : -(D : Int) + 1 ≤ k) (h2 : k ≤ (D : Int) - 1) (h : GS c X Y w (D + 1) (K3 D k) Db Kb) {r : Int}
    (hr : (lookF c.E X Y k (flab c.E X Y D (k + 1)) < lookF c.E X Y k (flab c.E X Y D (k - 1) + 1) ∧ r = lookF c.E X Y k (flab c.E X Y D (k - 1) + 1)) ∨
      (lookF c.E X Y k (flab c.E X Y D (k - 1) + 1) ≤ lookF c.E X Y k (flab c.E X Y D (k + 1)) ∧ r = lookF c.E X Y k (flab c.E X Y D (k + 1)))) :
    Calls Tryz.prog 76 #[.pointer (some ⟨c.ge, 0, none⟩), .int .i64 ((D : Int) + 1), .int .i64 k, .int .i64 r] w fun e w' => e = .returned (.tuple #[]) ∧ GS c X Y w' (D + 1) (K3 D (k + 2)) Db Kb := by
  have hN := ho.hN
  have hl : flab c.E X Y (D + 1) k = r := by
    rw [flab_mid c.E X Y D h1 h2]
    rcases hr with ⟨a, b⟩ | ⟨a, b⟩
    · rw [if_pos a, b]
    · rw [if_neg (Int.not_lt.2 a), b]
  have hb := flab_bnd (c := c) (X := X) (Y := Y) hk (by omega) (by omega)
  have hlk : lookF c.E X Y k r = r := by rcases hr with ⟨_, b⟩ | ⟨_, b⟩ <;> rw [b, lookF_lookF]
  have := gs_setF (Kf' := K3 D (k + 2)) h hX hY k r hk (by omega) (by rw [hl] at hb; omega) (by rw [hl] at hb; omega) (by rw [hlk, hl]) (fun k' h => k3_step hk h)
  rwa [succ_cast] at this
theorem qf_lookv (ho : c.ok) (hX : X ≤ c.N) (hY : Y ≤ c.M) (hD : D ≤ 100000) {k : Int} (hv : valid D (k - 1)) (h : GS c X Y w (D + 1) Kf Db Kb) :
    Calls Tryz.prog 81 #[.pointer (some ⟨c.ge, 0, none⟩), .int .i64 k, .int .i64 (flab c.E X Y D (k - 1) + 1)] w fun e w' => e = .returned (.int .i64 (lookF c.E X Y k (flab c.E X Y D (k - 1) + 1))) ∧ GS c X Y w' (D + 1) Kf Db Kb := by
  have hN := ho.hN
  have hb := flab_bnd (c := c) (X := X) (Y := Y) hv (by omega) (by omega)
  obtain ⟨p1, p2, p3⟩ := hv
  exact gs_lookF h hX hY k _ ⟨by omega, by omega⟩ ⟨by omega, by omega⟩ (by omega)
theorem qf_lookh (ho : c.ok) (hX : X ≤ c.N) (hY : Y ≤ c.M) (hD : D ≤ 100000) {k : Int} (hv : valid D (k + 1)) (h : GS c X Y w (D + 1) Kf Db Kb) :
    Calls Tryz.prog 81 #[.pointer (some ⟨c.ge, 0, none⟩), .int .i64 k, .int .i64 (flab c.E X Y D (k + 1))] w fun e w' => e = .returned (.int .i64 (lookF c.E X Y k (flab c.E X Y D (k + 1)))) ∧ GS c X Y w' (D + 1) Kf Db Kb := by
  have hN := ho.hN
  have hb := flab_bnd (c := c) (X := X) (Y := Y) hv (by omega) (by omega)
  obtain ⟨p1, p2, p3⟩ := hv
  exact gs_lookF h hX hY k _ ⟨by omega, by omega⟩ ⟨by omega, by omega⟩ (by omega)
def Zf (c : Cx) (X Y D : Nat) (k : Int) : Prop := flab c.E X Y D k = X ∧ flab c.E X Y D k - k = Y
set_option maxRecDepth 100000 in
set_option maxHeartbeats 4000000 in
theorem fdone_yes (ho : c.ok) (hX : X ≤ c.N) (hY : Y ≤ c.M) (h : GS c X Y w D Kf Db Kb) {k : Int} (hk : Kf k) (hD : D ≤ 1000000) (hz : Zf c X Y D k) :
    Calls Tryz.prog 117 #[.pointer (some ⟨c.ge, 0, none⟩), .int .i64 D, .int .i64 k] w fun e w' => ∃ v l, e = .returned (.tuple #[.bool true, v]) ∧ DgRow w' w.heap.size v l ∧ Below w.heap.size w w' ∧ Chain c.E X Y l 0 0 := by
  have hN := ho.hN
  have hM := ho.hM
  obtain ⟨-, c4, c5, c6, c7, c8⟩ := gs_cells h
  obtain ⟨F, nf, Lf, nb, Lb, s1, h2, h3, h4, h5⟩ := h
  obtain ⟨hv, hl⟩ := h4.at_ k hk
  have hlt := h4.lt k hk
  obtain ⟨z1, z2⟩ := hz
  have hb := fwd_lcs h2 (X := X) (Y := Y) (by omega) (by omega) D k (fun d' k' hd' hv' => h4.low d' k' hd' hv') hl hv hlt (by omega) (by omega) (by omega)
  rw [z1] at hb z2
  have hi := ix_of hv
  obtain ⟨vf, vb, Ff, Fb, h2⟩ := h2
  have hg := label_get w c.B c.ge 1 Ff vf nf Lf ((blk_cell h2.cells 1).trans rfl) h2.tf D (ix D k) k hlt hi.1 hi.2 (by omega)
  rw [hl, z1] at hg
  have t1 : ((X : Int) == X) = true := by simp
  have t2 : ((X : Int) - k == Y) = true := by rw [beq_iff_eq]; exact z2
  have b8 : -1099511627776 ≤ k ∧ k ≤ 1099511627776 := by obtain ⟨a, b, _⟩ := hv; omega
  rw [z2] at hb
  have Z2 := Lib.hid z2
  clear h2 h3 h4 h5 hl z1 z2 hi s1
  go_enter Tryz.func117, Tryz.ntmps117
  go_wp2_with (first | (go_at_call 97; refine hg.mono ?_; rintro e w' ⟨rfl, rfl⟩) | (go_at_call 84; refine hb.mono ?_; rintro e w' ⟨v, l, rfl, hb⟩; have HB := Aside0.mk hb; clear hb))
  go_ret2
  exact ⟨v, l, rfl, HB.out.row, HB.out.bel, HB.out.ch⟩
set_option maxRecDepth 100000 in
set_option maxHeartbeats 4000000 in
theorem fdone_no (ho : c.ok) (hX : X ≤ c.N) (hY : Y ≤ c.M) (h : GS c X Y w D Kf Db Kb) {k : Int} (hk : Kf k) (hD : D ≤ 1000000) (hz : ¬ Zf c X Y D k) :
    Calls Tryz.prog 117 #[.pointer (some ⟨c.ge, 0, none⟩), .int .i64 D, .int .i64 k] w fun e w' => e = .returned (.tuple #[.bool false, .slice none 0 0]) ∧ w = w' := by
  have hN := ho.hN
  have hM := ho.hM
  obtain ⟨-, c4, c5, c6, c7, c8⟩ := gs_cells h
  obtain ⟨F, nf, Lf, nb, Lb, s1, h2, h3, h4, h5⟩ := h
  obtain ⟨hv, hl⟩ := h4.at_ k hk
  have hlt := h4.lt k hk
  have hi := ix_of hv
  obtain ⟨vf, vb, Ff, Fb, h2⟩ := h2
  have hg := label_get w c.B c.ge 1 Ff vf nf Lf ((blk_cell h2.cells 1).trans rfl) h2.tf D (ix D k) k hlt hi.1 hi.2 (by omega)
  rw [hl] at hg
  have hb := flab_bnd (c := c) (X := X) (Y := Y) hv (by omega) (by omega)
  have b8 : -1099511627776 ≤ k ∧ k ≤ 1099511627776 := by obtain ⟨a, b, _⟩ := hv; omega
  unfold Zf at hz
  generalize flab c.E X Y D k = x at hg hb hz
  clear h2 h3 h4 h5 hl hi s1
  by_cases h1 : x = X
  · have t2 : (x - k == (Y : Int)) = false := by rw [beq_eq_false_iff_ne]; exact fun e => hz ⟨h1, e⟩
    have t1 : (x == (X : Int)) = true := by simpa using h1
    clear hz h1
    go_enter Tryz.func117, Tryz.ntmps117
    go_wp2_with (go_at_call 97; refine hg.mono ?_; rintro e w' ⟨rfl, rfl⟩)
    go_ret2
    exact ⟨rfl, rfl⟩
  · have t1 : (x == (X : Int)) = false := by rw [beq_eq_false_iff_ne]; exact h1
    clear hz h1
    go_enter Tryz.func117, Tryz.ntmps117
    go_wp2_with (go_at_call 97; refine hg.mono ?_; rintro e w' ⟨rfl, rfl⟩)
    go_ret2
    exact ⟨rfl, rfl⟩
end
end Go.Proofs.YtonajgipkpnpoaaGreatDoor.Gr
namespace Go.Proofs.YtonajgipkpnpoaaGreatDoor.Gr
open Go.RowKit Go.Proofs.YtonajgipkpnpoaaGreatDoorW.PrintWords Go.Myers
set_option linter.unusedVariables false
def OpF (c : Cx) (X Y D : Nat) : Prop := open_ (mir c.E X Y) X ((X : Int) - Y) D
def Rf (c : Cx) (X Y : Nat) (k : Int) : Prop := flab c.E X Y c.lim k ≤ X ∧ flab c.E X Y c.lim k - k ≤ Y
theorem opF_next {c : Cx} {X Y D : Nat} (h : ∀ d, d + 1 = D → OpF c X Y d) (hz : ∀ k, valid D k → ¬ Zf c X Y D k) : OpF c X Y D :=
  open_next h (fun k hv ⟨h1, h2⟩ => hz (-k) (valid_neg hv) (by
    unfold Zf flab
    rw [Int.neg_neg]
    exact ⟨by omega, by omega⟩))
theorem rf_some {c : Cx} {X Y : Nat} (h : OpF c X Y c.lim) : ∃ k, valid c.lim k ∧ Rf c X Y k := by
  obtain ⟨k, hv, h1, h2⟩ := in_range (E := mir c.E X Y) (N := X) (M := Y) (dl := (X : Int) - Y) rfl c.lim h
  refine ⟨-k, valid_neg hv, ?_⟩
  unfold Rf flab
  rw [Int.neg_neg]
  exact ⟨by omega, by omega⟩
def FwA (c : Cx) (X Y : Nat) (w' : World) (v : Value) (l : List Dg) : Prop :=
  ∃ F', Step c.W0 w' c.F0 F' ∧ DgRow w' c.W0.heap.size v l ∧ Chain c.E X Y l 0 0 ∧ ∃ vf vb, w'.heap[c.ge]? = some (.cells (egC c.sq vf vb c.lim X Y c.dl) 139 (0, 0))
def FwPost (c : Cx) (X Y : Nat) (e : Ending) (w' : World) : Prop := ∃ v l, e = .returned v ∧ FwA c X Y w' v l
section
variable {c : Cx} {X Y : Nat} {w : World} {D Db : Nat} {Kf Kb : Int → Prop}
theorem FwA.of (h : GS c X Y w D Kf Db Kb) {w' : World} {v : Value} {l : List Dg} (h1 : DgRow w' w.heap.size v l) (h2 : Below w.heap.size w w') (h3 : Chain c.E X Y l 0 0) : FwA c X Y w' v l := by
  obtain ⟨F, nf, Lf, nb, Lb, s1, ⟨vf, vb, Ff, Fb, e⟩, _⟩ := h
  exact ⟨F, s1.trans (Step.of_below h2), own_base_mono h1 s1.size, h3, vf, vb, (h2.block _ (blk_lt e.cells)).trans e.cells⟩
theorem fq_yes (ho : c.ok) (hX : X ≤ c.N) (hY : Y ≤ c.M) (hD : D ≤ 100000) (h : GS c X Y w (D + 1) Kf Db Kb) (k : Int) (hk : Kf k) (hz : Zf c X Y (D + 1) k) :
    Calls Tryz.prog 117 #[.pointer (some ⟨c.ge, 0, none⟩), .int .i64 ((D : Int) + 1), .int .i64 k] w fun e w' => ∃ v l, e = .returned (.tuple #[.bool true, v]) ∧ FwA c X Y w' v l := by
  have := (fdone_yes ho hX hY h hk (by omega) hz).mono (fun e w' ⟨v, l, h1, h2, h3, h4⟩ => (⟨v, l, h1, FwA.of h h2 h3 h4⟩ : ∃ v l, e = Ending.returned (.tuple #[.bool true, v]) ∧ FwA c X Y w' v l))
  rwa [succ_cast] at this
theorem fq_no (ho : c.ok) (hX : X ≤ c.N) (hY : Y ≤ c.M) (hD : D ≤ 100000) (h : GS c X Y w (D + 1) Kf Db Kb) (k : Int) (hk : Kf k) (hz : ¬ Zf c X Y (D + 1) k) :
    Calls Tryz.prog 117 #[.pointer (some ⟨c.ge, 0, none⟩), .int .i64 ((D : Int) + 1), .int .i64 k] w fun e w' => e = .returned (.tuple #[.bool false, .slice none 0 0]) ∧ w = w' := by
  have := fdone_no ho hX hY h hk (by omega) hz
  rwa [succ_cast] at this
theorem fq_lcs (ho : c.ok) (hX : X ≤ c.N) (hY : Y ≤ c.M) (h : GS c X Y w D Kf Db Kb) (d : Nat) (k : Int) (hd : d < D) (hv : valid d k) (hn : d < 1099511627776) (h0 : flab c.E X Y d k ≤ X) (h1 : flab c.E X Y d k - k ≤ Y) :
    Calls Tryz.prog 84 #[.pointer (some ⟨c.ge, 0, none⟩), .int .i64 d, .int .i64 k] w fun e w' => ∃ v l, e = .returned v ∧ FwA c X Y w' v l :=
  (gs_lcsF ho h hX hY d k hd hv hn h0 h1).mono fun e w' ⟨v, l, g1, g2, g3, g4⟩ => ⟨v, l, g1, FwA.of h g2 g3 (chain_widen l 0 0 g4 (by omega) (by omega))⟩
end
set_option maxRecDepth 100000 in
set_option maxHeartbeats 4000000 in
theorem forward_any (c : Cx) (ho : c.ok) {X Y : Nat} (hX : X ≤ c.N) (hY : Y ≤ c.M) {Db : Nat} {Kb : Int → Prop} (h : GS c X Y c.W0 0 (fun _ => False) Db Kb) :
    Calls Tryz.prog 100 #[.pointer (some ⟨c.ge, 0, none⟩)] c.W0 fun e w' => FwPost c X Y e w' := by
  obtain ⟨c3, c4, c5, c6, c7, c8⟩ := gs_cells h
  have hdl := ho.dl
  have hN := ho.hN
  have hM := ho.hM
  have hlim := ho.hlim
  have v0 : valid 0 0 := ⟨by omega, by omega, by omega⟩
  have e32 := gs_setF (Kf' := fun k => k = 0) h hX hY 0 0 v0 (by omega) ⟨by omega, by omega⟩ (by omega) (flab_zero c.E X Y 0).symm (fun k' h => Or.inr h)
  rw [show ((0 : Nat) : Int) = 0 from rfl] at e32
  have HO := Aside0.mk ho
  clear ho h
  by_cases z0 : Zf c X Y 0 0
  · go_enter Tryz.func100, Tryz.ntmps100
    go_wp2_with (first | (go_at_call 76; refine e32.mono ?_; rintro e w1 ⟨rfl, hs⟩; have HS := Aside0.mk hs; clear hs) | (go_at_call 117; refine (fdone_yes HO.out hX hY HS.out rfl (by omega) z0).mono ?_; rintro e w2 ⟨v, l, rfl, h2, h3, h4⟩; have HA := Aside0.mk (FwA.of HS.out h2 h3 h4); clear h2 h3 h4))
    go_ret
    exact ⟨v, l, rfl, HA.out⟩
  · have hz0 : ∀ k, valid 0 k → ¬ Zf c X Y 0 k := fun k hv hz => z0 (by
      obtain ⟨a, b, _⟩ := hv
      obtain rfl : k = 0 := by omega
      exact hz)
    have hop0 : OpF c X Y 0 := opF_next (fun d h => by omega) hz0
    have HOP := Aside0.mk hop0
    have HZ0 := Aside0.mk z0
    clear z0 hop0 hz0
    go_enter Tryz.func100, Tryz.ntmps100
    go_wp2_with (first | (go_at_call 76; refine e32.mono ?_; rintro e w1 ⟨rfl, hs⟩; obtain ⟨d3, d4, d5, d6, d7, d8⟩ := gs_cells hs; have HS := Aside0.mk hs; clear hs) | (go_at_call 117; refine (fdone_no HO.out hX hY HS.out rfl (by omega) HZ0.out).mono ?_; rintro e w2 ⟨rfl, rfl⟩))
    replace HS : Aside0 (GS c X Y w1 1 (fun _ => False) Db Kb) := ⟨HS.out.nextF (fun k hv => by obtain ⟨a, b, _⟩ := hv; omega)⟩
    clear HZ0 e32 c3 c4 c5 c6 c7 c8
    go_loopw [37] (fun v37 wr => ∃ D : Nat, v37 = .int .i64 D ∧ D ≤ c.lim ∧ Aside0 (GS c X Y wr (D + 1) (fun _ => False) Db Kb) ∧ Aside0 (OpF c X Y D)) (fun v37 _ => c.lim - (intOf v37).toNat)
    case atStart => exact ⟨0, rfl, by omega, HS, HOP⟩
    case round =>
      obtain ⟨D, rfl, hD, HG, HOD⟩ := hrel
      clear HS HOP d3 d4 d5 d6 d7 d8
      by_cases hlt : D < c.lim
      · have hvm : valid D (-(D : Int)) := ⟨by omega, by omega, by omega⟩
        have hvp : valid D (D : Int) := ⟨by omega, by omega, by omega⟩
        have hDD : D ≤ 100000 := by have := HO.out.hlim; omega
        have hK1 : K1 D (-((D : Int) + 1)) := rfl
        have hK3 : K3 D (-(D : Int) + 1) ((D : Int) + 1) := ⟨⟨by omega, by omega, by omega⟩, Or.inr (Or.inl rfl)⟩
        obtain ⟨b1, b2, _⟩ := flab_bnd (c := c) (X := X) (Y := Y) hvp (by omega) (by omega)
        by_cases z1 : Zf c X Y (D + 1) (-((D : Int) + 1))
        · go_wp2_with (first | (go_at_call 80; first | (with_reducible_and_instances refine (gs_getF HG.out D (-(D : Int)) (by omega) hvm (by omega)).mono ?_; rintro e w' ⟨rfl, rfl⟩)) | (go_at_call 76; first | (with_reducible_and_instances refine (qf_low HO.out hX hY hDD HG.out).mono ?_; rintro e w2 ⟨rfl, hs⟩; have HS1 := Aside0.mk hs; clear hs)) | (go_at_call 117; first | (with_reducible_and_instances refine (fq_yes HO.out hX hY hDD HS1.out (-((D : Int) + 1)) hK1 z1).mono ?_; rintro e w2 ⟨v, l, rfl, ha⟩; have HA := Aside0.mk ha; clear ha)))
          go_ret
          exact ⟨v, l, rfl, HA.out⟩
        · have Z1 := Aside0.mk z1
          clear z1
          by_cases z2 : Zf c X Y (D + 1) ((D : Int) + 1)
          · go_wp2_with (first | (go_at_call 80; first | (with_reducible_and_instances refine (gs_getF HG.out D (-(D : Int)) (by omega) hvm (by omega)).mono ?_; rintro e w' ⟨rfl, rfl⟩) | (with_reducible_and_instances refine (gs_getF HS1.out D ((D : Int)) (by omega) hvp (by omega)).mono ?_; rintro e w' ⟨rfl, rfl⟩)) | (go_at_call 76; first | (with_reducible_and_instances refine (qf_low HO.out hX hY hDD HG.out).mono ?_; rintro e w2 ⟨rfl, hs⟩; have HS1 := Aside0.mk hs; clear hs) | (with_reducible_and_instances refine (qf_high HO.out hX hY hDD HS1.out).mono ?_; rintro e w2 ⟨rfl, hs⟩; have HS2 := Aside0.mk hs; clear hs)) | (go_at_call 117; first | (with_reducible_and_instances refine (fq_no HO.out hX hY hDD HS1.out (-((D : Int) + 1)) hK1 Z1.out).mono ?_; rintro e w' ⟨rfl, rfl⟩) | (with_reducible_and_instances refine (fq_yes HO.out hX hY hDD HS2.out ((D : Int) + 1) hK3 z2).mono ?_; rintro e w2 ⟨v, l, rfl, ha⟩; have HA := Aside0.mk ha; clear ha)))
            go_ret
            exact ⟨v, l, rfl, HA.out⟩
          · have Z2 := Aside0.mk z2
            clear z2
            go_wp2_with (first | (go_at_call 80; first | (with_reducible_and_instances refine (gs_getF HG.out D (-(D : Int)) (by omega) hvm (by omega)).mono ?_; rintro e w' ⟨rfl, rfl⟩) | (with_reducible_and_instances refine (gs_getF HS1.out D ((D : Int)) (by omega) hvp (by omega)).mono ?_; rintro e w' ⟨rfl, rfl⟩)) | (go_at_call 76; first | (with_reducible_and_instances refine (qf_low HO.out hX hY hDD HG.out).mono ?_; rintro e w2 ⟨rfl, hs⟩; have HS1 := Aside0.mk hs; clear hs) | (with_reducible_and_instances refine (qf_high HO.out hX hY hDD HS1.out).mono ?_; rintro e w2 ⟨rfl, hs⟩; have HS2 := Aside0.mk hs; clear hs)) | (go_at_call 117; first | (with_reducible_and_instances refine (fq_no HO.out hX hY hDD HS1.out (-((D : Int) + 1)) hK1 Z1.out).mono ?_; rintro e w' ⟨rfl, rfl⟩) | (with_reducible_and_instances refine (fq_no HO.out hX hY hDD HS2.out ((D : Int) + 1) hK3 Z2.out).mono ?_; rintro e w' ⟨rfl, rfl⟩)))
            have hz3 : ∀ k', K3 D (-(D : Int) + 1) k' → ¬ Zf c X Y (D + 1) k' := fun k' h => by
              obtain ⟨⟨a, b, p⟩, h | h | h⟩ := h
              · rw [h]; exact Z1.out
              · rw [h]; exact Z2.out
              · have : k' = -((D : Int) + 1) := by omega
                rw [this]; exact Z1.out
            have HZ3 := Aside0.mk hz3
            clear hz3 b1 b2
            go_loopw [10] (fun v10 wr2 => ∃ k : Int, v10 = .int .i64 k ∧ -(D : Int) + 1 ≤ k ∧ k ≤ (D : Int) + 1 ∧ Aside0 (valid (D + 1) k) ∧ Aside0 (GS c X Y wr2 (D + 1) (K3 D k) Db Kb) ∧ Aside0 (∀ k', K3 D k k' → ¬ Zf c X Y (D + 1) k')) (fun v10 _ => ((D : Int) + 2 - intOf v10).toNat)
            case atStart => exact ⟨-(D : Int) + 1, rfl, by omega, by omega, ⟨by omega, by omega, by omega⟩, HS2, HZ3⟩
            case round =>
              obtain ⟨k, rfl, hk1, hk2, HV, HK, HZ⟩ := hrel
              clear HS2 HZ3
              by_cases hk3 : k ≤ (D : Int) - 1
              · have hva : valid D (k - 1) := by obtain ⟨p1, p2, p3⟩ := HV.out; exact ⟨by omega, by omega, by omega⟩
                have hvb : valid D (k + 1) := by obtain ⟨p1, p2, p3⟩ := HV.out; exact ⟨by omega, by omega, by omega⟩
                have hKk : K3 D (k + 2) k := ⟨HV.out, Or.inr (Or.inr (by omega))⟩
                have HV2 : Aside0 (valid (D + 1) (k + 2)) := ⟨by obtain ⟨p1, p2, p3⟩ := HV.out; exact ⟨by omega, by omega, by omega⟩⟩
                obtain ⟨b3, b4, _⟩ := flab_bnd (c := c) (X := X) (Y := Y) hva (by omega) (by omega)
                by_cases hlt2 : lookF c.E X Y k (flab c.E X Y D (k + 1)) < lookF c.E X Y k (flab c.E X Y D (k - 1) + 1)
                · by_cases z3 : Zf c X Y (D + 1) k
                  · go_wp2_with (first | (go_at_call 80; first | (with_reducible_and_instances refine (gs_getF HK.out D (k - 1) (by omega) hva (by omega)).mono ?_; rintro e w' ⟨rfl, rfl⟩) | (with_reducible_and_instances refine (gs_getF HS3.out D (k + 1) (by omega) hvb (by omega)).mono ?_; rintro e w' ⟨rfl, rfl⟩)) | (go_at_call 81; first | (with_reducible_and_instances refine (qf_lookv HO.out hX hY hDD hva HK.out).mono ?_; rintro e w2 ⟨rfl, hs⟩; have HS3 := Aside0.mk hs; clear hs) | (with_reducible_and_instances refine (qf_lookh HO.out hX hY hDD hvb HS3.out).mono ?_; rintro e w2 ⟨rfl, hs⟩; have HS4 := Aside0.mk hs; clear hs)) | (go_at_call 76; first | (with_reducible_and_instances refine (qf_mid HO.out hX hY hDD HV.out hk1 hk3 HS4.out (Or.inl ⟨hlt2, rfl⟩)).mono ?_; rintro e w2 ⟨rfl, hs⟩; have HS5 := Aside0.mk hs; clear hs)) | (go_at_call 117; first | (with_reducible_and_instances refine (fq_yes HO.out hX hY hDD HS5.out (k) hKk z3).mono ?_; rintro e w2 ⟨v, l, rfl, ha⟩; have HA := Aside0.mk ha; clear ha)))
                    go_ret
                    exact ⟨v, l, rfl, HA.out⟩
                  · have Z3 := Aside0.mk z3
                    clear z3
                    go_wp2_with (first | (go_at_call 80; first | (with_reducible_and_instances refine (gs_getF HK.out D (k - 1) (by omega) hva (by omega)).mono ?_; rintro e w' ⟨rfl, rfl⟩) | (with_reducible_and_instances refine (gs_getF HS3.out D (k + 1) (by omega) hvb (by omega)).mono ?_; rintro e w' ⟨rfl, rfl⟩)) | (go_at_call 81; first | (with_reducible_and_instances refine (qf_lookv HO.out hX hY hDD hva HK.out).mono ?_; rintro e w2 ⟨rfl, hs⟩; have HS3 := Aside0.mk hs; clear hs) | (with_reducible_and_instances refine (qf_lookh HO.out hX hY hDD hvb HS3.out).mono ?_; rintro e w2 ⟨rfl, hs⟩; have HS4 := Aside0.mk hs; clear hs)) | (go_at_call 76; first | (with_reducible_and_instances refine (qf_mid HO.out hX hY hDD HV.out hk1 hk3 HS4.out (Or.inl ⟨hlt2, rfl⟩)).mono ?_; rintro e w2 ⟨rfl, hs⟩; have HS5 := Aside0.mk hs; clear hs)) | (go_at_call 117; first | (with_reducible_and_instances refine (fq_no HO.out hX hY hDD HS5.out (k) hKk Z3.out).mono ?_; rintro e w' ⟨rfl, rfl⟩)))
                    go_roundw
                    case rel => exact ⟨k + 2, by go_num, by omega, by obtain ⟨p1, p2, p3⟩ := HV2.out; omega, HV2, HS5, ⟨fun k2 h => by
                      by_cases e : k2 = k
                      · rw [e]; exact Z3.out
                      · obtain ⟨hv, h⟩ := h
                        refine HZ.out k2 ⟨hv, ?_⟩
                        obtain ⟨p1, p2, p3⟩ := hv
                        obtain ⟨p4, p5, p6⟩ := HV.out
                        omega⟩⟩
                    case measure => simp [intOf]; omega
                · have hle := Int.not_lt.1 hlt2
                  by_cases z3 : Zf c X Y (D + 1) k
                  · go_wp2_with (first | (go_at_call 80; first | (with_reducible_and_instances refine (gs_getF HK.out D (k - 1) (by omega) hva (by omega)).mono ?_; rintro e w' ⟨rfl, rfl⟩) | (with_reducible_and_instances refine (gs_getF HS3.out D (k + 1) (by omega) hvb (by omega)).mono ?_; rintro e w' ⟨rfl, rfl⟩)) | (go_at_call 81; first | (with_reducible_and_instances refine (qf_lookv HO.out hX hY hDD hva HK.out).mono ?_; rintro e w2 ⟨rfl, hs⟩; have HS3 := Aside0.mk hs; clear hs) | (with_reducible_and_instances refine (qf_lookh HO.out hX hY hDD hvb HS3.out).mono ?_; rintro e w2 ⟨rfl, hs⟩; have HS4 := Aside0.mk hs; clear hs)) | (go_at_call 76; first | (with_reducible_and_instances refine (qf_mid HO.out hX hY hDD HV.out hk1 hk3 HS4.out (Or.inr ⟨hle, rfl⟩)).mono ?_; rintro e w2 ⟨rfl, hs⟩; have HS5 := Aside0.mk hs; clear hs)) | (go_at_call 117; first | (with_reducible_and_instances refine (fq_yes HO.out hX hY hDD HS5.out (k) hKk z3).mono ?_; rintro e w2 ⟨v, l, rfl, ha⟩; have HA := Aside0.mk ha; clear ha)))
                    go_ret
                    exact ⟨v, l, rfl, HA.out⟩
                  · have Z3 := Aside0.mk z3
                    clear z3
                    go_wp2_with (first | (go_at_call 80; first | (with_reducible_and_instances refine (gs_getF HK.out D (k - 1) (by omega) hva (by omega)).mono ?_; rintro e w' ⟨rfl, rfl⟩) | (with_reducible_and_instances refine (gs_getF HS3.out D (k + 1) (by omega) hvb (by omega)).mono ?_; rintro e w' ⟨rfl, rfl⟩)) | (go_at_call 81; first | (with_reducible_and_instances refine (qf_lookv HO.out hX hY hDD hva HK.out).mono ?_; rintro e w2 ⟨rfl, hs⟩; have HS3 := Aside0.mk hs; clear hs) | (with_reducible_and_instances refine (qf_lookh HO.out hX hY hDD hvb HS3.out).mono ?_; rintro e w2 ⟨rfl, hs⟩; have HS4 := Aside0.mk hs; clear hs)) | (go_at_call 76; first | (with_reducible_and_instances refine (qf_mid HO.out hX hY hDD HV.out hk1 hk3 HS4.out (Or.inr ⟨hle, rfl⟩)).mono ?_; rintro e w2 ⟨rfl, hs⟩; have HS5 := Aside0.mk hs; clear hs)) | (go_at_call 117; first | (with_reducible_and_instances refine (fq_no HO.out hX hY hDD HS5.out (k) hKk Z3.out).mono ?_; rintro e w' ⟨rfl, rfl⟩)))
                    go_roundw
                    case rel => exact ⟨k + 2, by go_num, by omega, by obtain ⟨p1, p2, p3⟩ := HV2.out; omega, HV2, HS5, ⟨fun k2 h => by
                      by_cases e : k2 = k
                      · rw [e]; exact Z3.out
                      · obtain ⟨hv, h⟩ := h
                        refine HZ.out k2 ⟨hv, ?_⟩
                        obtain ⟨p1, p2, p3⟩ := hv
                        obtain ⟨p4, p5, p6⟩ := HV.out
                        omega⟩⟩
                    case measure => simp [intOf]; omega
              · go_wp2_with fail
                go_roundw
                case rel =>
                  have hz4 : ∀ k', valid (D + 1) k' → ¬ Zf c X Y (D + 1) k' := fun k' hv => by
                    have hv' := hv
                    obtain ⟨p1, p2, p3⟩ := hv'
                    refine HZ.out k' ⟨hv, ?_⟩
                    omega
                  have hc4 : ∀ k', valid (D + 1) k' → K3 D k k' := fun k' hv => by
                    have hv' := hv
                    obtain ⟨p1, p2, p3⟩ := hv'
                    refine ⟨hv, ?_⟩
                    omega
                  exact ⟨D + 1, by go_num, by omega, ⟨HK.out.nextF hc4⟩, ⟨opF_next (fun d h => by rw [show d = D by omega]; exact HOD.out) hz4⟩⟩
                case measure => simp [intOf]; omega
      · obtain rfl : D = c.lim := by omega
        obtain ⟨d3, d4, d5, d6, d7, d8⟩ := gs_cells HG.out
        have hlim2 := HO.out.hlim
        go_wp2_with fail
        go_loopw [15, 16, 17] (fun v15 v16 v17 w9 => ∃ km dm k : Int, v15 = .int .i64 km ∧ v16 = .int .i64 dm ∧ v17 = .int .i64 k ∧ -(c.lim : Int) ≤ k ∧ k ≤ (c.lim : Int) + 2 ∧ w9 = wr ∧ Aside0 (((c.lim : Int) + k) % 2 = 0) ∧ Aside0 ((km = -(c.lim : Int) - 1 ∧ dm = -1 ∧ ∀ k', valid c.lim k' → k' < k → ¬ Rf c X Y k') ∨ (valid c.lim km ∧ Rf c X Y km))) (fun _ _ v17 _ => ((c.lim : Int) + 3 - intOf v17).toNat)
        case atStart => exact ⟨_, _, _, rfl, rfl, rfl, by omega, by omega, rfl, ⟨by omega⟩, ⟨Or.inl ⟨rfl, rfl, fun k' hv h => by obtain ⟨p1, p2, p3⟩ := hv; omega⟩⟩⟩
        case round =>
          obtain ⟨km, dm, k, rfl, rfl, rfl, hk1, hk2, rfl, HP, HR⟩ := hrel
          by_cases hk3 : k ≤ (c.lim : Int)
          · have hvk : valid c.lim k := ⟨hk1, hk3, HP.out⟩
            have HVK := Aside0.mk hvk
            have hg := gs_getF HG.out c.lim k (by omega) hvk (by omega)
            have hb := flab_bnd (c := c) (X := X) (Y := Y) hvk (by omega) (by omega)
            generalize hx : flab c.E X Y c.lim k = x at hg hb
            obtain ⟨b1, b2, b3⟩ := hb
            have HX := Aside0.mk hx
            clear hx hvk
            have HP2 : Aside0 (((c.lim : Int) + (k + 2)) % 2 = 0) := ⟨by have := HP.out; omega⟩
            have hnext : (¬ Rf c X Y k) → ((km = -(c.lim : Int) - 1 ∧ dm = -1 ∧ ∀ k', valid c.lim k' → k' < k + 2 → ¬ Rf c X Y k') ∨ (valid c.lim km ∧ Rf c X Y km)) := fun hn => by
              rcases HR.out with ⟨r1, r2, r3⟩ | r
              · refine Or.inl ⟨r1, r2, fun k' hv hk => ?_⟩
                by_cases e : k' = k
                · rw [e]; exact hn
                · refine r3 k' hv ?_
                  obtain ⟨p1, p2, p3⟩ := hv
                  have := HP.out
                  omega
              · exact Or.inr r
            have HN := Aside0.mk hnext
            clear hnext
            by_cases h1 : dm < x + (x - k)
            · by_cases h2 : x ≤ (X : Int)
              · by_cases h3 : x - k ≤ (Y : Int)
                · have HRk : Aside0 (Rf c X Y k) := ⟨⟨by rw [HX.out]; exact h2, by rw [HX.out]; exact h3⟩⟩
                  go_wp2_with (go_at_call 80; refine hg.mono ?_; rintro e w' ⟨rfl, rfl⟩)
                  go_roundw
                  case rel => exact ⟨k, _, k + 2, rfl, rfl, by go_num, by omega, by omega, trivial, HP2, ⟨Or.inr ⟨HVK.out, HRk.out⟩⟩⟩
                  case measure => simp [intOf]; omega
                · have hn : Aside0 (¬ Rf c X Y k) := ⟨fun h => h3 (by have := h.2; rwa [HX.out] at this)⟩
                  go_wp2_with (go_at_call 80; refine hg.mono ?_; rintro e w' ⟨rfl, rfl⟩)
                  go_roundw
                  case rel => exact ⟨km, dm, k + 2, rfl, rfl, by go_num, by omega, by omega, trivial, HP2, ⟨HN.out hn.out⟩⟩
                  case measure => simp [intOf]; omega
              · have hn : Aside0 (¬ Rf c X Y k) := ⟨fun h => h2 (by have := h.1; rwa [HX.out] at this)⟩
                go_wp2_with (go_at_call 80; refine hg.mono ?_; rintro e w' ⟨rfl, rfl⟩)
                go_roundw
                case rel => exact ⟨km, dm, k + 2, rfl, rfl, by go_num, by omega, by omega, trivial, HP2, ⟨HN.out hn.out⟩⟩
                case measure => simp [intOf]; omega
            · have hn : Aside0 ((km = -(c.lim : Int) - 1 ∧ dm = -1 ∧ ∀ k', valid c.lim k' → k' < k + 2 → ¬ Rf c X Y k') ∨ (valid c.lim km ∧ Rf c X Y km)) := ⟨by
                rcases HR.out with ⟨r1, r2, r3⟩ | r
                · exfalso; omega
                · exact Or.inr r⟩
              go_wp2_with (go_at_call 80; refine hg.mono ?_; rintro e w' ⟨rfl, rfl⟩)
              go_roundw
              case rel => exact ⟨km, dm, k + 2, rfl, rfl, by go_num, by omega, by omega, trivial, HP2, hn⟩
              case measure => simp [intOf]; omega
          · have hfin : valid c.lim km ∧ Rf c X Y km := by
              rcases HR.out with ⟨r1, r2, r3⟩ | r
              · exfalso
                obtain ⟨k0, hv0, hr0⟩ := rf_some HOD.out
                have hv0' := hv0
                obtain ⟨p1, p2, p3⟩ := hv0'
                exact r3 k0 hv0 (by omega) hr0
              · exact r
            have hl := fq_lcs HO.out hX hY HG.out c.lim km (by omega) hfin.1 (by omega) hfin.2.1 hfin.2.2
            have hkm : -(c.lim : Int) ≤ km := hfin.1.1
            clear hfin
            go_wp2_with (go_at_call 84; refine hl.mono ?_; rintro e w2 ⟨v, l, rfl, ha⟩; have HA := Aside0.mk ha; clear ha)
            go_ret
            exact ⟨v, l, rfl, HA.out⟩
end Go.Proofs.YtonajgipkpnpoaaGreatDoor.Gr
