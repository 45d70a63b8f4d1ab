/- The road from the end: backward. -/
import Derived.Test.YtonajgipkpnpoaaGrGs
namespace Go.Proofs.Ytonajgipkpnpoaa.Gr
open Go.RowKit Go.Proofs.YtonajgipkpnpoaaW.PrintWords Go.Myers

def BwPost (c : Cx) (e : Ending) (w' : World) : Prop := ∃ v l, e = .returned v ∧ BwAns c w' v l

theorem gs_cells {c : Cx} {w : World} {D : Nat} {K : Int → Prop} (h : GS c w D K) : w.cell? ⟨c.ge, 3, none⟩ = some (.int .i64 c.lim) ∧ w.cell? ⟨c.ge, 6, none⟩ = some (.int .i64 c.N) ∧ w.cell? ⟨c.ge, 8, none⟩ = some (.int .i64 c.dl) := by
  obtain ⟨F, nb, Lb, h1, ⟨vf, vb, Ff, Fb, h2⟩, h3, h4⟩ := h
  exact ⟨(blk_cell h2.cells 3).trans rfl, (blk_cell h2.cells 6).trans rfl, (blk_cell h2.cells 8).trans rfl⟩

/-- a label is at the start -/
def Z (c : Cx) (D : Nat) (k : Int) : Prop := lab c.E c.N c.dl D k = 0 ∧ lab c.E c.N c.dl D k - (k + c.dl) = 0

theorem lab_bnd (c : Cx) (_ho : c.ok) {D : Nat} {k : Int} (hv : valid D k) (hD : D ≤ 100001) : -1000000 ≤ lab c.E c.N c.dl D k ∧ lab c.E c.N c.dl D k ≤ c.N ∧ lab c.E c.N c.dl D k - (k + c.dl) ≤ c.M := by
  have h1 := lab_bound (E := c.E) (N := c.N) (M := c.M) (dl := c.dl) rfl D k hv
  have h2 := lab_lo (E := c.E) (N := c.N) (dl := c.dl) D k hv
  omega

/-- a label is in range -/
def Rg (c : Cx) (k : Int) : Prop := 0 ≤ lab c.E c.N c.dl c.lim k ∧ 0 ≤ lab c.E c.N c.dl c.lim k - (k + c.dl)

def K1 (D : Nat) (k : Int) : Prop := k = -((D : Int) + 1)
def K2 (D : Nat) (k : Int) : Prop := k = -((D : Int) + 1) ∨ k = (D : Int) + 1
def K3 (D : Nat) (m k : Int) : Prop := valid (D + 1) k ∧ (k = -((D : Int) + 1) ∨ k = (D : Int) + 1 ∨ k < m)

section
variable {c : Cx} {w : World} {D : Nat} {K : Int → Prop}

theorem succ_cast (D : Nat) : ((D + 1 : Nat) : Int) = (D : Int) + 1 := by omega

theorem q_low (ho : c.ok) (hD : D ≤ 100000) (h : GS c w (D + 1) (fun _ => False)) :
    Calls Try.prog 32 #[.pointer (some ⟨c.ge, 0, none⟩), .int .i64 ((D : Int) + 1), .int .i64 (-((D : Int) + 1)), .int .i64 (lab c.E c.N c.dl D (-(D : Int)) - 1)] w fun e w' => e = .returned (.tuple #[]) ∧ GS c w' (D + 1) (K1 D) := by
  have hb := lab_bnd c ho (D := D) (k := -(D : Int)) ⟨by omega, by omega, by omega⟩ (by omega)
  have := gs_set (K' := K1 D) ho h (-((D : Int) + 1)) (lab c.E c.N c.dl D (-(D : Int)) - 1) ⟨by omega, by omega, by omega⟩ (by omega) ⟨by omega, by omega⟩ (by omega) (by rw [lab_succ, if_pos rfl]) (fun k' h => Or.inr h)
  rwa [succ_cast] at this

theorem q_high (ho : c.ok) (hD : D ≤ 100000) (h : GS c w (D + 1) (K1 D)) :
    Calls Try.prog 32 #[.pointer (some ⟨c.ge, 0, none⟩), .int .i64 ((D : Int) + 1), .int .i64 ((D : Int) + 1), .int .i64 (lab c.E c.N c.dl D (D : Int))] w fun e w' => e = .returned (.tuple #[]) ∧ GS c w' (D + 1) (K3 D (-(D : Int) + 1)) := by
  have hb := lab_bnd c ho (D := D) (k := (D : Int)) ⟨by omega, by omega, by omega⟩ (by omega)
  have := gs_set (K' := K3 D (-(D : Int) + 1)) ho h ((D : Int) + 1) (lab c.E c.N c.dl D (D : Int)) ⟨by omega, by omega, by omega⟩ (by omega) ⟨by omega, by omega⟩ (by omega) (by rw [lab_succ, if_neg (by omega), if_pos rfl])
    (fun k' h => by
      obtain ⟨⟨a, b, p⟩, h | h | h⟩ := h
      · exact Or.inl h
      · exact Or.inr h
      · left; show k' = _; omega)
  rwa [succ_cast] at this

theorem q_mid (ho : c.ok) (hD : D ≤ 100000) {k : Int} (hk : valid (D + 1) k) (h1 : -(D : Int) + 1 ≤ k) (h2 : k ≤ (D : Int) - 1) (h : GS c w (D + 1) (K3 D k)) {r : Int}
    (hr : (Go.Myers.look c.E c.dl k (lab c.E c.N c.dl D (k - 1)) < Go.Myers.look c.E c.dl k (lab c.E c.N c.dl D (k + 1) - 1) ∧ r = Go.Myers.look c.E c.dl k (lab c.E c.N c.dl D (k - 1))) ∨
      (Go.Myers.look c.E c.dl k (lab c.E c.N c.dl D (k + 1) - 1) ≤ Go.Myers.look c.E c.dl k (lab c.E c.N c.dl D (k - 1)) ∧ r = Go.Myers.look c.E c.dl k (lab c.E c.N c.dl D (k + 1) - 1))) :
    Calls Try.prog 32 #[.pointer (some ⟨c.ge, 0, none⟩), .int .i64 ((D : Int) + 1), .int .i64 k, .int .i64 r] w fun e w' => e = .returned (.tuple #[]) ∧ GS c w' (D + 1) (K3 D (k + 2)) := by
  have hk' := hk
  obtain ⟨p1, p2, p3⟩ := hk'
  have hl : lab c.E c.N c.dl (D + 1) k = r := by
    rw [lab_succ, if_neg (by omega), if_neg (by omega)]
    rcases hr with ⟨a, b⟩ | ⟨a, b⟩
    · rw [if_pos a, b]
    · rw [if_neg (Int.not_lt.2 a), b]
  have hb := lab_bnd c ho hk (by omega)
  have := gs_set (K' := K3 D (k + 2)) ho h k r hk (by omega) ⟨by omega, by omega⟩ (by omega)
    (by rw [hl]; rcases hr with ⟨_, b⟩ | ⟨_, b⟩ <;> rw [b, look_look])
    (fun k' h => by
      obtain ⟨⟨a, b, p⟩, h | h | h⟩ := h
      · exact Or.inl ⟨⟨a, b, p⟩, Or.inl h⟩
      · exact Or.inl ⟨⟨a, b, p⟩, Or.inr (Or.inl h)⟩
      · by_cases e : k' = k
        · exact Or.inr e
        · exact Or.inl ⟨⟨a, b, p⟩, Or.inr (Or.inr (by omega))⟩)
  rwa [succ_cast] at this

theorem q_lookv (ho : c.ok) (hD : D ≤ 100000) {k : Int} (hk : valid (D + 1) k) (h1 : -(D : Int) + 1 ≤ k) (h : GS c w (D + 1) K) :
    Calls Try.prog 35 #[.pointer (some ⟨c.ge, 0, none⟩), .int .i64 k, .int .i64 (lab c.E c.N c.dl D (k - 1))] w fun e w' => e = .returned (.int .i64 (Go.Myers.look c.E c.dl k (lab c.E c.N c.dl D (k - 1)))) ∧ GS c w' (D + 1) K := by
  obtain ⟨p1, p2, p3⟩ := hk
  have hb := lab_bnd c ho (D := D) (k := k - 1) ⟨by omega, by omega, by omega⟩ (by omega)
  exact gs_look ho h k _ ⟨by omega, by omega⟩ ⟨by omega, by omega⟩ (by omega)

theorem q_lookh (ho : c.ok) (hD : D ≤ 100000) {k : Int} (hk : valid (D + 1) k) (h1 : k ≤ (D : Int) - 1) (h : GS c w (D + 1) K) :
    Calls Try.prog 35 #[.pointer (some ⟨c.ge, 0, none⟩), .int .i64 k, .int .i64 (lab c.E c.N c.dl D (k + 1) - 1)] w fun e w' => e = .returned (.int .i64 (Go.Myers.look c.E c.dl k (lab c.E c.N c.dl D (k + 1) - 1))) ∧ GS c w' (D + 1) K := by
  obtain ⟨p1, p2, p3⟩ := hk
  have hb := lab_bnd c ho (D := D) (k := k + 1) ⟨by omega, by omega, by omega⟩ (by omega)
  exact gs_look ho h k _ ⟨by omega, by omega⟩ ⟨by omega, by omega⟩ (by omega)

theorem q_yes (ho : c.ok) (hD : D ≤ 100000) (h : GS c w (D + 1) K) (k : Int) (hk : K k) (hz : Z c (D + 1) k) (hop : open_ c.E c.N c.dl D) :
    Calls Try.prog 33 #[.pointer (some ⟨c.ge, 0, none⟩), .int .i64 ((D : Int) + 1), .int .i64 k] w fun e w' => ∃ v l, e = .returned (.tuple #[.bool true, v]) ∧ BwAns c w' v l := by
  have := gs_yes ho h k hk (by omega) hz.1 hz.2 (fun d h => by rwa [show d = D by omega])
  rwa [succ_cast] at this

theorem q_no (ho : c.ok) (hD : D ≤ 100000) (h : GS c w (D + 1) K) (k : Int) (hk : K k) (hz : ¬ Z c (D + 1) k) :
    Calls Try.prog 33 #[.pointer (some ⟨c.ge, 0, none⟩), .int .i64 ((D : Int) + 1), .int .i64 k] w fun e w' => e = .returned (.tuple #[.bool false, .slice none 0 0]) ∧ w = w' := by
  have := gs_no ho h k hk (by omega) hz
  rwa [succ_cast] at this
end

set_option maxRecDepth 100000 in
set_option maxHeartbeats 4000000 in
theorem backward_any (c : Cx) (ho : c.ok) (h : GS c c.W0 0 (fun _ => False)) :
    Calls Try.prog 29 #[.pointer (some ⟨c.ge, 0, none⟩)] c.W0 fun e w' => BwPost c e w' := by
  obtain ⟨c3, c6, c8⟩ := gs_cells h
  have hdl := ho.dl
  have hN := ho.hN
  have hM := ho.hM
  have hlim := ho.hlim
  have v0 : valid 0 0 := ⟨by omega, by omega, by omega⟩
  have e32 := gs_set (K' := fun k => k = 0) ho h 0 c.N v0 (by omega) ⟨by omega, by omega⟩ (by show (c.N : Int) - (0 + c.dl) ≤ c.M; unfold Cx.dl; omega) rfl (fun k' h => Or.inr h)
  rw [show ((0 : Nat) : Int) = 0 from rfl] at e32
  have HO := Aside0.mk ho
  clear ho h
  by_cases z0 : Z c 0 0
  · go_enter Try.func29, Try.ntmps29
    go_wp2_with (first | (go_at_call 32; refine e32.mono ?_; rintro e w1 ⟨rfl, hs⟩; have HS := Aside0.mk hs; clear hs) | (go_at_call 33; refine (gs_yes HO.out HS.out 0 rfl (by omega) z0.1 z0.2 (fun d h => by omega)).mono ?_; rintro e w2 ⟨v, l, rfl, ha⟩; have HA := Aside0.mk ha; clear ha))
    go_ret
    exact ⟨v, l, rfl, HA.out⟩
  · have hz0 : ∀ k, valid 0 k → ¬ Z c 0 k := fun k hv hz => z0 (by
      obtain ⟨a, b, _⟩ := hv
      obtain rfl : k = 0 := by omega
      exact hz)
    have hop0 : open_ c.E c.N c.dl 0 := open_next (fun d h => by omega) hz0
    have HOP := Aside0.mk hop0
    have HZ0 := Aside0.mk z0
    clear z0 hop0 hz0
    go_enter Try.func29, Try.ntmps29
    go_wp2_with (first | (go_at_call 32; refine e32.mono ?_; rintro e w1 ⟨rfl, hs⟩; obtain ⟨d3, d6, d8⟩ := gs_cells hs; have HS := Aside0.mk hs; clear hs) | (go_at_call 33; refine (gs_no HO.out HS.out 0 rfl (by omega) HZ0.out).mono ?_; rintro e w2 ⟨rfl, rfl⟩))
    replace HS : Aside0 (GS c w1 1 (fun _ => False)) := ⟨HS.out.next (fun k hv => by obtain ⟨a, b, _⟩ := hv; omega)⟩
    clear HZ0 e32 c3 c6 c8
    go_loopw [37] (fun v37 wr => ∃ D : Nat, v37 = .int .i64 D ∧ D ≤ c.lim ∧ Aside0 (GS c wr (D + 1) (fun _ => False)) ∧ Aside0 (open_ c.E c.N c.dl D)) (fun v37 _ => c.lim - (intOf v37).toNat)
    case atStart => exact ⟨0, rfl, by omega, HS, HOP⟩
    case round =>
      obtain ⟨D, rfl, hD, HG, HOD⟩ := hrel
      clear HS HOP d3 d6 d8
      by_cases hlt : D < c.lim
      · have hvm : valid D (-(D : Int)) := ⟨by omega, by omega, by omega⟩
        have hvp : valid D (D : Int) := ⟨by omega, by omega, by omega⟩
        have hDD : D ≤ 100000 := by have := HO.out.hlim; omega
        have hK1 : K1 D (-((D : Int) + 1)) := rfl
        have hK3 : K3 D (-(D : Int) + 1) ((D : Int) + 1) := ⟨⟨by omega, by omega, by omega⟩, Or.inr (Or.inl rfl)⟩
        obtain ⟨b1, b2, _⟩ := lab_bnd c HO.out hvm (by omega)
        by_cases z1 : Z c (D + 1) (-((D : Int) + 1))
        · go_wp2_with (first | (go_at_call 34; first | (with_reducible_and_instances refine (gs_get HO.out HG.out D (-(D : Int)) (by omega) hvm (by omega)).mono ?_; rintro e w' ⟨rfl, rfl⟩)) | (go_at_call 32; first | (with_reducible_and_instances refine (q_low HO.out hDD HG.out).mono ?_; rintro e w2 ⟨rfl, hs⟩; have HS1 := Aside0.mk hs; clear hs)) | (go_at_call 33; first | (with_reducible_and_instances refine (q_yes HO.out hDD HS1.out (-((D : Int) + 1)) hK1 z1 HOD.out).mono ?_; rintro e w2 ⟨v, l, rfl, ha⟩; have HA := Aside0.mk ha; clear ha)))
          go_ret
          exact ⟨v, l, rfl, HA.out⟩
        · have Z1 := Aside0.mk z1
          clear z1
          by_cases z2 : Z c (D + 1) ((D : Int) + 1)
          · go_wp2_with (first | (go_at_call 34; first | (with_reducible_and_instances refine (gs_get HO.out HG.out D (-(D : Int)) (by omega) hvm (by omega)).mono ?_; rintro e w' ⟨rfl, rfl⟩) | (with_reducible_and_instances refine (gs_get HO.out HS1.out D ((D : Int)) (by omega) hvp (by omega)).mono ?_; rintro e w' ⟨rfl, rfl⟩)) | (go_at_call 32; first | (with_reducible_and_instances refine (q_low HO.out hDD HG.out).mono ?_; rintro e w2 ⟨rfl, hs⟩; have HS1 := Aside0.mk hs; clear hs) | (with_reducible_and_instances refine (q_high HO.out hDD HS1.out).mono ?_; rintro e w2 ⟨rfl, hs⟩; have HS2 := Aside0.mk hs; clear hs)) | (go_at_call 33; first | (with_reducible_and_instances refine (q_no HO.out hDD HS1.out (-((D : Int) + 1)) hK1 Z1.out).mono ?_; rintro e w' ⟨rfl, rfl⟩) | (with_reducible_and_instances refine (q_yes HO.out hDD HS2.out ((D : Int) + 1) hK3 z2 HOD.out).mono ?_; rintro e w2 ⟨v, l, rfl, ha⟩; have HA := Aside0.mk ha; clear ha)))
            go_ret
            exact ⟨v, l, rfl, HA.out⟩
          · have Z2 := Aside0.mk z2
            clear z2
            go_wp2_with (first | (go_at_call 34; first | (with_reducible_and_instances refine (gs_get HO.out HG.out D (-(D : Int)) (by omega) hvm (by omega)).mono ?_; rintro e w' ⟨rfl, rfl⟩) | (with_reducible_and_instances refine (gs_get HO.out HS1.out D ((D : Int)) (by omega) hvp (by omega)).mono ?_; rintro e w' ⟨rfl, rfl⟩)) | (go_at_call 32; first | (with_reducible_and_instances refine (q_low HO.out hDD HG.out).mono ?_; rintro e w2 ⟨rfl, hs⟩; have HS1 := Aside0.mk hs; clear hs) | (with_reducible_and_instances refine (q_high HO.out hDD HS1.out).mono ?_; rintro e w2 ⟨rfl, hs⟩; have HS2 := Aside0.mk hs; clear hs)) | (go_at_call 33; first | (with_reducible_and_instances refine (q_no HO.out hDD HS1.out (-((D : Int) + 1)) hK1 Z1.out).mono ?_; rintro e w' ⟨rfl, rfl⟩) | (with_reducible_and_instances refine (q_no HO.out hDD HS2.out ((D : Int) + 1) hK3 Z2.out).mono ?_; rintro e w' ⟨rfl, rfl⟩)))
            have hz3 : ∀ k', K3 D (-(D : Int) + 1) k' → ¬ Z c (D + 1) k' := fun k' h => by
              obtain ⟨⟨a, b, p⟩, h | h | h⟩ := h
              · rw [h]; exact Z1.out
              · rw [h]; exact Z2.out
              · have : k' = -((D : Int) + 1) := by omega
                rw [this]; exact Z1.out
            have HZ3 := Aside0.mk hz3
            clear hz3 b1 b2
            go_loopw [10] (fun v10 wr2 => ∃ k : Int, v10 = .int .i64 k ∧ -(D : Int) + 1 ≤ k ∧ k ≤ (D : Int) + 1 ∧ Aside0 (valid (D + 1) k) ∧ Aside0 (GS c wr2 (D + 1) (K3 D k)) ∧ Aside0 (∀ k', K3 D k k' → ¬ Z c (D + 1) k')) (fun v10 _ => ((D : Int) + 2 - intOf v10).toNat)
            case atStart => exact ⟨-(D : Int) + 1, rfl, by omega, by omega, ⟨by omega, by omega, by omega⟩, HS2, HZ3⟩
            case round =>
              obtain ⟨k, rfl, hk1, hk2, HV, HK, HZ⟩ := hrel
              clear HS2 HZ3
              by_cases hk3 : k ≤ (D : Int) - 1
              · have hva : valid D (k - 1) := by obtain ⟨p1, p2, p3⟩ := HV.out; exact ⟨by omega, by omega, by omega⟩
                have hvb : valid D (k + 1) := by obtain ⟨p1, p2, p3⟩ := HV.out; exact ⟨by omega, by omega, by omega⟩
                have hKk : K3 D (k + 2) k := ⟨HV.out, Or.inr (Or.inr (by omega))⟩
                have HV2 : Aside0 (valid (D + 1) (k + 2)) := ⟨by obtain ⟨p1, p2, p3⟩ := HV.out; exact ⟨by omega, by omega, by omega⟩⟩
                obtain ⟨b3, b4, _⟩ := lab_bnd c HO.out hvb (by omega)
                by_cases hlt2 : Go.Myers.look c.E c.dl k (lab c.E c.N c.dl D (k - 1)) < Go.Myers.look c.E c.dl k (lab c.E c.N c.dl D (k + 1) - 1)
                · by_cases z3 : Z c (D + 1) k
                  · go_wp2_with (first | (go_at_call 34; first | (with_reducible_and_instances refine (gs_get HO.out HK.out D (k - 1) (by omega) hva (by omega)).mono ?_; rintro e w' ⟨rfl, rfl⟩) | (with_reducible_and_instances refine (gs_get HO.out HS3.out D (k + 1) (by omega) hvb (by omega)).mono ?_; rintro e w' ⟨rfl, rfl⟩)) | (go_at_call 35; first | (with_reducible_and_instances refine (q_lookv HO.out hDD HV.out hk1 HK.out).mono ?_; rintro e w2 ⟨rfl, hs⟩; have HS3 := Aside0.mk hs; clear hs) | (with_reducible_and_instances refine (q_lookh HO.out hDD HV.out hk3 HS3.out).mono ?_; rintro e w2 ⟨rfl, hs⟩; have HS4 := Aside0.mk hs; clear hs)) | (go_at_call 32; first | (with_reducible_and_instances refine (q_mid HO.out hDD HV.out hk1 hk3 HS4.out (Or.inl ⟨hlt2, rfl⟩)).mono ?_; rintro e w2 ⟨rfl, hs⟩; have HS5 := Aside0.mk hs; clear hs)) | (go_at_call 33; first | (with_reducible_and_instances refine (q_yes HO.out hDD HS5.out (k) hKk z3 HOD.out).mono ?_; rintro e w2 ⟨v, l, rfl, ha⟩; have HA := Aside0.mk ha; clear ha)))
                    go_ret
                    exact ⟨v, l, rfl, HA.out⟩
                  · have Z3 := Aside0.mk z3
                    clear z3
                    go_wp2_with (first | (go_at_call 34; first | (with_reducible_and_instances refine (gs_get HO.out HK.out D (k - 1) (by omega) hva (by omega)).mono ?_; rintro e w' ⟨rfl, rfl⟩) | (with_reducible_and_instances refine (gs_get HO.out HS3.out D (k + 1) (by omega) hvb (by omega)).mono ?_; rintro e w' ⟨rfl, rfl⟩)) | (go_at_call 35; first | (with_reducible_and_instances refine (q_lookv HO.out hDD HV.out hk1 HK.out).mono ?_; rintro e w2 ⟨rfl, hs⟩; have HS3 := Aside0.mk hs; clear hs) | (with_reducible_and_instances refine (q_lookh HO.out hDD HV.out hk3 HS3.out).mono ?_; rintro e w2 ⟨rfl, hs⟩; have HS4 := Aside0.mk hs; clear hs)) | (go_at_call 32; first | (with_reducible_and_instances refine (q_mid HO.out hDD HV.out hk1 hk3 HS4.out (Or.inl ⟨hlt2, rfl⟩)).mono ?_; rintro e w2 ⟨rfl, hs⟩; have HS5 := Aside0.mk hs; clear hs)) | (go_at_call 33; first | (with_reducible_and_instances refine (q_no HO.out hDD HS5.out (k) hKk Z3.out).mono ?_; rintro e w' ⟨rfl, rfl⟩)))
                    go_roundw
                    case rel => exact ⟨k + 2, by go_num, by omega, by obtain ⟨p1, p2, p3⟩ := HV2.out; omega, HV2, HS5, ⟨fun k2 h => by
                      by_cases e : k2 = k
                      · rw [e]; exact Z3.out
                      · obtain ⟨hv, h⟩ := h
                        refine HZ.out k2 ⟨hv, ?_⟩
                        obtain ⟨p1, p2, p3⟩ := hv
                        obtain ⟨p4, p5, p6⟩ := HV.out
                        omega⟩⟩
                    case measure => simp [intOf]; omega
                · have hle := Int.not_lt.1 hlt2
                  by_cases z3 : Z c (D + 1) k
                  · go_wp2_with (first | (go_at_call 34; first | (with_reducible_and_instances refine (gs_get HO.out HK.out D (k - 1) (by omega) hva (by omega)).mono ?_; rintro e w' ⟨rfl, rfl⟩) | (with_reducible_and_instances refine (gs_get HO.out HS3.out D (k + 1) (by omega) hvb (by omega)).mono ?_; rintro e w' ⟨rfl, rfl⟩)) | (go_at_call 35; first | (with_reducible_and_instances refine (q_lookv HO.out hDD HV.out hk1 HK.out).mono ?_; rintro e w2 ⟨rfl, hs⟩; have HS3 := Aside0.mk hs; clear hs) | (with_reducible_and_instances refine (q_lookh HO.out hDD HV.out hk3 HS3.out).mono ?_; rintro e w2 ⟨rfl, hs⟩; have HS4 := Aside0.mk hs; clear hs)) | (go_at_call 32; first | (with_reducible_and_instances refine (q_mid HO.out hDD HV.out hk1 hk3 HS4.out (Or.inr ⟨hle, rfl⟩)).mono ?_; rintro e w2 ⟨rfl, hs⟩; have HS5 := Aside0.mk hs; clear hs)) | (go_at_call 33; first | (with_reducible_and_instances refine (q_yes HO.out hDD HS5.out (k) hKk z3 HOD.out).mono ?_; rintro e w2 ⟨v, l, rfl, ha⟩; have HA := Aside0.mk ha; clear ha)))
                    go_ret
                    exact ⟨v, l, rfl, HA.out⟩
                  · have Z3 := Aside0.mk z3
                    clear z3
                    go_wp2_with (first | (go_at_call 34; first | (with_reducible_and_instances refine (gs_get HO.out HK.out D (k - 1) (by omega) hva (by omega)).mono ?_; rintro e w' ⟨rfl, rfl⟩) | (with_reducible_and_instances refine (gs_get HO.out HS3.out D (k + 1) (by omega) hvb (by omega)).mono ?_; rintro e w' ⟨rfl, rfl⟩)) | (go_at_call 35; first | (with_reducible_and_instances refine (q_lookv HO.out hDD HV.out hk1 HK.out).mono ?_; rintro e w2 ⟨rfl, hs⟩; have HS3 := Aside0.mk hs; clear hs) | (with_reducible_and_instances refine (q_lookh HO.out hDD HV.out hk3 HS3.out).mono ?_; rintro e w2 ⟨rfl, hs⟩; have HS4 := Aside0.mk hs; clear hs)) | (go_at_call 32; first | (with_reducible_and_instances refine (q_mid HO.out hDD HV.out hk1 hk3 HS4.out (Or.inr ⟨hle, rfl⟩)).mono ?_; rintro e w2 ⟨rfl, hs⟩; have HS5 := Aside0.mk hs; clear hs)) | (go_at_call 33; first | (with_reducible_and_instances refine (q_no HO.out hDD HS5.out (k) hKk Z3.out).mono ?_; rintro e w' ⟨rfl, rfl⟩)))
                    go_roundw
                    case rel => exact ⟨k + 2, by go_num, by omega, by obtain ⟨p1, p2, p3⟩ := HV2.out; omega, HV2, HS5, ⟨fun k2 h => by
                      by_cases e : k2 = k
                      · rw [e]; exact Z3.out
                      · obtain ⟨hv, h⟩ := h
                        refine HZ.out k2 ⟨hv, ?_⟩
                        obtain ⟨p1, p2, p3⟩ := hv
                        obtain ⟨p4, p5, p6⟩ := HV.out
                        omega⟩⟩
                    case measure => simp [intOf]; omega
              · go_wp2_with fail
                go_roundw
                case rel =>
                  have hz4 : ∀ k', valid (D + 1) k' → ¬ Z c (D + 1) k' := fun k' hv => by
                    have hv' := hv
                    obtain ⟨p1, p2, p3⟩ := hv'
                    refine HZ.out k' ⟨hv, ?_⟩
                    omega
                  have hc4 : ∀ k', valid (D + 1) k' → K3 D k k' := fun k' hv => by
                    have hv' := hv
                    obtain ⟨p1, p2, p3⟩ := hv'
                    refine ⟨hv, ?_⟩
                    omega
                  exact ⟨D + 1, by go_num, by omega, ⟨HK.out.next hc4⟩, ⟨open_next (fun d h => by rw [show d = D by omega]; exact HOD.out) hz4⟩⟩
                case measure => simp [intOf]; omega
      · obtain rfl : D = c.lim := by omega
        obtain ⟨d3, d6, d8⟩ := gs_cells HG.out
        have hlim2 := HO.out.hlim
        go_wp2_with fail
        go_loopw [15, 16, 17] (fun v15 v16 v17 w9 => ∃ km dm k : Int, v15 = .int .i64 km ∧ v16 = .int .i64 dm ∧ v17 = .int .i64 k ∧ -(c.lim : Int) ≤ k ∧ k ≤ (c.lim : Int) + 2 ∧ w9 = wr ∧ Aside0 (((c.lim : Int) + k) % 2 = 0) ∧ Aside0 ((km = -(c.lim : Int) - 1 ∧ dm = 33554432 ∧ ∀ k', valid c.lim k' → k' < k → ¬ Rg c k') ∨ (valid c.lim km ∧ Rg c km))) (fun _ _ v17 _ => ((c.lim : Int) + 3 - intOf v17).toNat)
        case atStart => exact ⟨_, _, _, rfl, rfl, rfl, by omega, by omega, rfl, ⟨by omega⟩, ⟨Or.inl ⟨rfl, rfl, fun k' hv h => by obtain ⟨p1, p2, p3⟩ := hv; omega⟩⟩⟩
        case round =>
          obtain ⟨km, dm, k, rfl, rfl, rfl, hk1, hk2, rfl, HP, HR⟩ := hrel
          by_cases hk3 : k ≤ (c.lim : Int)
          · have hvk : valid c.lim k := ⟨hk1, hk3, HP.out⟩
            have HVK := Aside0.mk hvk
            have hg := gs_get HO.out HG.out c.lim k (by omega) hvk (by omega)
            have hb := lab_bnd c HO.out hvk (by omega)
            generalize hx : lab c.E c.N c.dl c.lim k = x at hg hb
            obtain ⟨b1, b2, b3⟩ := hb
            have HX := Aside0.mk hx
            clear hx hvk
            have HP2 : Aside0 (((c.lim : Int) + (k + 2)) % 2 = 0) := ⟨by have := HP.out; omega⟩
            have hnext : (¬ Rg c k) → ((km = -(c.lim : Int) - 1 ∧ dm = 33554432 ∧ ∀ k', valid c.lim k' → k' < k + 2 → ¬ Rg c k') ∨ (valid c.lim km ∧ Rg c km)) := fun hn => by
              rcases HR.out with ⟨r1, r2, r3⟩ | r
              · refine Or.inl ⟨r1, r2, fun k' hv hk => ?_⟩
                by_cases e : k' = k
                · rw [e]; exact hn
                · refine r3 k' hv ?_
                  obtain ⟨p1, p2, p3⟩ := hv
                  have := HP.out
                  omega
              · exact Or.inr r
            have HN := Aside0.mk hnext
            clear hnext
            by_cases h1 : x + (x - (k + c.dl)) < dm
            · by_cases h2 : 0 ≤ x
              · by_cases h3 : 0 ≤ x - (k + c.dl)
                · have HRk : Aside0 (Rg c k) := ⟨⟨by rw [HX.out]; exact h2, by rw [HX.out]; exact h3⟩⟩
                  go_wp2_with (go_at_call 34; refine hg.mono ?_; rintro e w' ⟨rfl, rfl⟩)
                  go_roundw
                  case rel => exact ⟨k, _, k + 2, rfl, rfl, by go_num, by omega, by omega, trivial, HP2, ⟨Or.inr ⟨HVK.out, HRk.out⟩⟩⟩
                  case measure => simp [intOf]; omega
                · have hn : Aside0 (¬ Rg c k) := ⟨fun h => h3 (by have := h.2; rwa [HX.out] at this)⟩
                  go_wp2_with (go_at_call 34; refine hg.mono ?_; rintro e w' ⟨rfl, rfl⟩)
                  go_roundw
                  case rel => exact ⟨km, dm, k + 2, rfl, rfl, by go_num, by omega, by omega, trivial, HP2, ⟨HN.out hn.out⟩⟩
                  case measure => simp [intOf]; omega
              · have hn : Aside0 (¬ Rg c k) := ⟨fun h => h2 (by have := h.1; rwa [HX.out] at this)⟩
                go_wp2_with (go_at_call 34; refine hg.mono ?_; rintro e w' ⟨rfl, rfl⟩)
                go_roundw
                case rel => exact ⟨km, dm, k + 2, rfl, rfl, by go_num, by omega, by omega, trivial, HP2, ⟨HN.out hn.out⟩⟩
                case measure => simp [intOf]; omega
            · have hn : Aside0 ((km = -(c.lim : Int) - 1 ∧ dm = 33554432 ∧ ∀ k', valid c.lim k' → k' < k + 2 → ¬ Rg c k') ∨ (valid c.lim km ∧ Rg c km)) := ⟨by
                rcases HR.out with ⟨r1, r2, r3⟩ | r
                · exfalso; omega
                · exact Or.inr r⟩
              go_wp2_with (go_at_call 34; refine hg.mono ?_; rintro e w' ⟨rfl, rfl⟩)
              go_roundw
              case rel => exact ⟨km, dm, k + 2, rfl, rfl, by go_num, by omega, by omega, trivial, HP2, hn⟩
              case measure => simp [intOf]; omega
          · have hfin : valid c.lim km ∧ Rg c km := by
              rcases HR.out with ⟨r1, r2, r3⟩ | r
              · exfalso
                obtain ⟨k0, hv0, hr0⟩ := in_range (E := c.E) (N := c.N) (M := c.M) (dl := c.dl) rfl c.lim HOD.out
                have hv0' := hv0
                obtain ⟨p1, p2, p3⟩ := hv0'
                exact r3 k0 hv0 (by omega) hr0
              · exact r
            have hl := gs_lcs HO.out HG.out c.lim km (by omega) hfin.1 (by omega) hfin.2.1 hfin.2.2 HOD.out
            have hkm : -(c.lim : Int) ≤ km := hfin.1.1
            clear hfin
            go_wp2_with (go_at_call 36; refine hl.mono ?_; rintro e w2 ⟨v, l, rfl, ha⟩; have HA := Aside0.mk ha; clear ha)
            go_ret
            exact ⟨v, l, rfl, HA.out⟩
end Go.Proofs.Ytonajgipkpnpoaa.Gr
