/- sort.symMerge's recursion over whatever two methods Less and Swap do. -/
import Derived.Test.YtonajgipkpnpoaaDoorSortY
namespace Go.Proofs.YtonajgipkpnpoaaDoor.SortS
open Go.RowKit Go.Sort Go.Sst
variable {α : Type} [Inhabited α] {lt : α → α → Bool} {rv : Value} {St : Array α → World → Prop}

/-- What stands behind the rotation. -/
structure Split (lt : α → α → Bool) (d : Array α) (a s m e b mid : Nat) : Prop where
  st : StabIn lt a b d (rotA d s m e)
  o1 : SortedIn lt a s (rotA d s m e)
  o2 : SortedIn lt s mid (rotA d s m e)
  o3 : SortedIn lt mid e (rotA d s m e)
  o4 : SortedIn lt e b (rotA d s m e)
  cr : ∀ p q, a ≤ p → p < mid → mid ≤ q → q < b → lt (rotA d s m e)[q]! (rotA d s m e)[p]! = false

theorem Split.of (hO : SWO lt) {d : Array α} {a s m b mid s0 r0 : Nat} (hmid : mid = (a + b) / 2) (hb : b ≤ d.size) (_ham : a < m) (hmb : m < b)
    (hs0 : s0 = if mid < m then mid + m - b else a) (hr0 : r0 = if mid < m then mid else m) (h1 : s0 ≤ s) (h2 : s ≤ r0)
    (sA : SortedIn lt a m d) (sB : SortedIn lt m b d) (hC : Cut lt d s0 r0 (mid + m - 1) s s) : Split lt d a s m (mid + m - s) b mid := by
  have f1 : a ≤ s0 ∧ mid + m - b ≤ s0 := by
    rw [hs0]; split
    · omega
    · omega
  have f2 : r0 ≤ mid ∧ r0 ≤ m ∧ (r0 = mid ∨ r0 = m) := by
    rw [hr0]; split
    · omega
    · omega
  have f3 : s0 = a ∨ s0 = mid + m - b := by
    rw [hs0]; split
    · omega
    · omega
  have h := rot_split hO d a s m (mid + m - s) b (by omega) (by omega) (by omega) (by omega) hb sA sB
    (fun c1 c2 => by
      have := hC.hi s (by omega) (by omega)
      rwa [show mid + m - s - 1 = mid + m - 1 - s by omega])
    (fun c1 c2 => by
      have := hC.lo (s - 1) (by omega) (by omega)
      rwa [show mid + m - 1 - (s - 1) = mid + m - s by omega] at this)
  rw [show s + (mid + m - s - m) = mid by omega] at h
  exact ⟨h.1, h.2.1, h.2.2.1, h.2.2.2.1, h.2.2.2.2.1, h.2.2.2.2.2⟩

/-- The left half as it stands behind its call, or without one. -/
structure Lft (lt : α → α → Bool) (d : Array α) (a s m e b mid : Nat) (d2 : Array α) : Prop where
  size : d2.size = d.size
  st : StabIn lt a mid (rotA d s m e) d2
  so : SortedIn lt a mid d2
  o3 : SortedIn lt mid e d2
  o4 : SortedIn lt e b d2

theorem Lft.called {d d2 : Array α} {a s m e b mid : Nat} (h : Split lt d a s m e b mid) (hme : mid ≤ e) (st : StabIn lt a mid (rotA d s m e) d2) (so : SortedIn lt a mid d2) : Lft lt d a s m e b mid d2 :=
  ⟨by rw [st.size]; simp, st, so, sorted_congr h.o3 fun p hp _ => st.out p (Or.inr hp), sorted_congr h.o4 fun p hp _ => st.out p (Or.inr (by omega))⟩

theorem Lft.none {d : Array α} {a s m e b mid : Nat} (h : Split lt d a s m e b mid) (has : a ≤ s) (hsm : s ≤ mid) (c : ¬ (a < s ∧ s < mid)) : Lft lt d a s m e b mid (rotA d s m e) :=
  ⟨by simp, StabIn.refl _ _ _, by
    by_cases k : a = s
    · subst k; exact h.o2
    · have : s = mid := by omega
      subst this; exact h.o1, h.o3, h.o4⟩

theorem Lft.fin (hO : SWO lt) {d d2 d3 : Array α} {a s m e b mid : Nat} (h : Split lt d a s m e b mid) (h1 : a ≤ mid) (h2 : mid ≤ b) (k : Lft lt d a s m e b mid d2) (st : StabIn lt mid b d2 d3) (so : SortedIn lt mid b d3) : StabIn lt a b d d3 ∧ SortedIn lt a b d3 :=
  halves hO d (rotA d s m e) d2 d3 a mid b h1 h2 h.st h.cr k.st k.so st so

theorem Lft.fin' (hO : SWO lt) {d d2 : Array α} {a s m e b mid : Nat} (h : Split lt d a s m e b mid) (h1 : a ≤ mid) (h2 : mid ≤ e) (h3 : e ≤ b) (k : Lft lt d a s m e b mid d2) (c : ¬ (mid < e ∧ e < b)) : StabIn lt a b d d2 ∧ SortedIn lt a b d2 :=
  k.fin hO h h1 (by omega) (StabIn.refl _ _ _) (by
    by_cases q : mid = e
    · subst q; exact k.o4
    · have : e = b := by omega
      subst this; exact k.o3)

def RecIH (St : Array α → World → Prop) (lt : α → α → Bool) (rv : Value) (k : Nat) : Prop :=
  ∀ (d : Array α) (w : World) (a m b : Nat), b - a ≤ k → St d w → a < m → m < b → b ≤ d.size → d.size < 4611686018427387904 → SortedIn lt a m d → SortedIn lt m b d →
    Calls Tryd.prog 73 #[.iface 99 rv, .int .i64 a, .int .i64 m, .int .i64 b] w fun e w' => e = .returned (.tuple #[]) ∧ Merged lt St a b d w'

set_option maxHeartbeats 1600000 in
set_option maxRecDepth 100000 in
theorem rec_big (H : Srt lt rv St) (hO : SWO lt) (k : Nat) (ih : RecIH St lt rv k) (d : Array α) (w : World) (a m b : Nat) (hk : b - a ≤ k + 1) (hS : St d w) (ham : a + 1 < m) (hmb : m + 1 < b) (hb : b ≤ d.size) (hsz : d.size < 4611686018427387904)
    (sA : SortedIn lt a m d) (sB : SortedIn lt m b d) (hbig : (a + b) / 2 < m) :
    Calls Tryd.prog 73 #[.iface 99 rv, .int .i64 a, .int .i64 m, .int .i64 b] w fun e w' => e = .returned (.tuple #[]) ∧ Merged lt St a b d w' := by
  have mL := H.mL
  have mS := H.mS
  have HA := Lib.hid sA
  have HB := Lib.hid sB
  have HO := Lib.hid hO
  have HIH := Lib.hid ih
  clear sA sB hO ih
  have hc0 : ((m : Int) - a == 1) = false := by rw [beq_eq_false_iff_ne]; omega
  have hc1 : ((b : Int) - m == 1) = false := by rw [beq_eq_false_iff_ne]; omega
  have hc2 : decide (((a : Int) + b) / 2 < m) = true := by exact decide_eq_true (by omega)
  go_enter Tryd.func73, Tryd.ntmps73
  go_wp2
  go_loopw [18, 19] (fun vs vr wr => ∃ (s r : Nat), vs = .int .i64 s ∧ vr = .int .i64 r ∧ (a + b) / 2 + m - b ≤ s ∧ s ≤ r ∧ r ≤ (a + b) / 2 ∧ St d wr ∧ Hid (Cut lt d ((a + b) / 2 + m - b) ((a + b) / 2) ((a + b) / 2 + m - 1) s r)) (fun vs vr _ => (intOf vr).toNat - (intOf vs).toNat)
  case atStart => exact ⟨(a + b) / 2 + m - b, (a + b) / 2, by first | rfl | (congr 1; omega), by first | rfl | (congr 1; omega), Nat.le_refl _, by omega, Nat.le_refl _, hS, ⟨fun c h1 h2 => by omega, fun c h1 h2 => by omega⟩⟩
  case round =>
    obtain ⟨s, r, rfl, rfl, h0s, hsr, hr0, hs, hC⟩ := hrel
    by_cases hlt : s < r
    · have hl := H.less d wr ((a + b) / 2 + m - 1 - (s + r) / 2) ((s + r) / 2) hs (by omega) (by omega)
      have e1 : (((s + r) / 2 : Nat) : Int) = ((s : Int) + r) / 2 := by omega
      have e2 : (((a + b) / 2 + m - 1 - (s + r) / 2 : Nat) : Int) = ((a : Int) + b) / 2 + m - 1 - ((s : Int) + r) / 2 := by omega
      rw [e1, e2] at hl
      have E1 := Lib.hid e1
      clear e1 e2
      cases hlv : lt d[(a + b) / 2 + m - 1 - (s + r) / 2]! d[(s + r) / 2]! with
      | false =>
        have HC' := Lib.hid (Cut.down HO.out hC.out HA.out HB.out (by omega) (by omega) (by omega) (by omega) hlv (by omega) (by omega) hr0)
        rw [hlv] at hl
        clear hlv
        go_wp2_with (go_at_call 97; refine hl.mono ?_; rintro e w' ⟨rfl, hs2⟩)
        go_roundw
        case rel => exact ⟨(s + r) / 2 + 1, r, by rw [← E1.out]; go_num, rfl, by omega, by omega, hr0, hs2, HC'⟩
        case measure => simp [intOf]; omega
      | true =>
        have HC' := Lib.hid (Cut.up HO.out hC.out HA.out HB.out (by omega) (by omega) (by omega) (by omega) hlv (by omega) (by omega))
        rw [hlv] at hl
        clear hlv
        go_wp2_with (go_at_call 97; refine hl.mono ?_; rintro e w' ⟨rfl, hs2⟩)
        go_roundw
        case rel => exact ⟨s, (s + r) / 2, rfl, by rw [E1.out], h0s, by omega, by omega, hs2, HC'⟩
        case measure => simp [intOf]; omega
    · obtain rfl : s = r := by omega
      have SP := Lib.hid (Split.of HO.out (mid := (a + b) / 2) rfl hb (by omega) (by omega) (s0 := (a + b) / 2 + m - b) (r0 := (a + b) / 2) (by rw [if_pos hbig]) (by rw [if_pos hbig]) h0s hr0 HA.out HB.out hC.out)
      have ee : (((a + b) / 2 + m - s : Nat) : Int) = ((a : Int) + b) / 2 + m - s := by omega
      have em : (((a + b) / 2 : Nat) : Int) = ((a : Int) + b) / 2 := by omega
      have hsm : s ≤ (a + b) / 2 := by omega
      have has : a ≤ s := by omega
      have heb : (a + b) / 2 + m - s ≤ b := by omega
      have hme : (a + b) / 2 ≤ (a + b) / 2 + m - s := by omega
      have hrot := fun (c1 : s < m) (c2 : m < (a + b) / 2 + m - s) => rotate_any H d wr s m ((a + b) / 2 + m - s) hs c1 c2 (by omega) hsz
      simp only [ee] at hrot
      have hLc := fun w1 h1 (c1 : a < s) (c2 : s < (a + b) / 2) => HIH.out (rotA d s m ((a + b) / 2 + m - s)) w1 a s ((a + b) / 2) (by omega) h1 c1 c2 (by simp; omega) (by simpa using hsz) SP.out.o1 SP.out.o2
      simp only [em] at hLc
      have hRc := fun d2 w2 (h2 : St d2 w2) (k2 : Lft lt d a s m ((a + b) / 2 + m - s) b ((a + b) / 2) d2) (c1 : (a + b) / 2 < (a + b) / 2 + m - s) (c2 : (a + b) / 2 + m - s < b) => HIH.out d2 w2 ((a + b) / 2) ((a + b) / 2 + m - s) b (by omega) h2 c1 c2 (by rw [k2.size]; exact hb) (by rw [k2.size]; exact hsz) k2.o3 k2.o4
      simp only [em, ee] at hRc
      have HROT := Lib.hid hrot
      have HLC := Lib.hid hLc
      have HRC := Lib.hid hRc
      clear hrot hLc hRc ee em
      by_cases c1 : s < m
      · by_cases c2 : s < (a + b) / 2
        · by_cases c3 : a < s
          · by_cases c4 : (a + b) / 2 + m - s < b
            · try (exfalso; omega)
              all_goals
                go_wp2_with fail
                refine (HROT.out (by omega) (by omega)).mono ?_
                rintro e1 w1 ⟨rfl, hs1⟩
                go_wp2_with fail
                refine (HLC.out _ hs1 (by omega) (by omega)).mono ?_
                rintro e2 w2 ⟨rfl, hM2⟩
                obtain ⟨d2, hs2, st2, so2⟩ := hM2
                have K2 := Lib.hid (Lft.called SP.out hme st2 so2)
                clear st2 so2
                go_wp2_with fail
                refine (HRC.out _ _ hs2 K2.out (by omega) (by omega)).mono ?_
                rintro e3 w3 ⟨rfl, hM3⟩
                obtain ⟨d3, hs3, st3, so3⟩ := hM3
                have K3 := Lib.hid (Lft.fin HO.out SP.out (by omega) (by omega) K2.out st3 so3)
                clear st3 so3
                go_wp2_with fail
                go_end0
                exact ⟨rfl, _, hs3, K3.out⟩
            · try (exfalso; omega)
              all_goals
                go_wp2_with fail
                refine (HROT.out (by omega) (by omega)).mono ?_
                rintro e1 w1 ⟨rfl, hs1⟩
                go_wp2_with fail
                refine (HLC.out _ hs1 (by omega) (by omega)).mono ?_
                rintro e2 w2 ⟨rfl, hM2⟩
                obtain ⟨d2, hs2, st2, so2⟩ := hM2
                have K2 := Lib.hid (Lft.called SP.out hme st2 so2)
                clear st2 so2
                have hs3 := hs2
                have K3 := Lib.hid (Lft.fin' HO.out SP.out (by omega) hme heb K2.out (by omega))
                go_wp2_with fail
                go_end0
                exact ⟨rfl, _, hs3, K3.out⟩
          · by_cases c4 : (a + b) / 2 + m - s < b
            · try (exfalso; omega)
              all_goals
                go_wp2_with fail
                refine (HROT.out (by omega) (by omega)).mono ?_
                rintro e1 w1 ⟨rfl, hs1⟩
                have hs2 := hs1
                have K2 := Lib.hid (Lft.none SP.out has hsm (by omega))
                go_wp2_with fail
                refine (HRC.out _ _ hs2 K2.out (by omega) (by omega)).mono ?_
                rintro e3 w3 ⟨rfl, hM3⟩
                obtain ⟨d3, hs3, st3, so3⟩ := hM3
                have K3 := Lib.hid (Lft.fin HO.out SP.out (by omega) (by omega) K2.out st3 so3)
                clear st3 so3
                go_wp2_with fail
                go_end0
                exact ⟨rfl, _, hs3, K3.out⟩
            · try (exfalso; omega)
              all_goals
                go_wp2_with fail
                refine (HROT.out (by omega) (by omega)).mono ?_
                rintro e1 w1 ⟨rfl, hs1⟩
                have hs2 := hs1
                have K2 := Lib.hid (Lft.none SP.out has hsm (by omega))
                have hs3 := hs2
                have K3 := Lib.hid (Lft.fin' HO.out SP.out (by omega) hme heb K2.out (by omega))
                go_wp2_with fail
                go_end0
                exact ⟨rfl, _, hs3, K3.out⟩
        · by_cases c4 : (a + b) / 2 + m - s < b
          · try (exfalso; omega)
            all_goals
              have hs1 : St (rotA d s m ((a + b) / 2 + m - s)) wr := by rw [show (a + b) / 2 + m - s = m by omega, rotA_id_right]; exact hs
              have hs2 := hs1
              have K2 := Lib.hid (Lft.none SP.out has hsm (by omega))
              go_wp2_with fail
              refine (HRC.out _ _ hs2 K2.out (by omega) (by omega)).mono ?_
              rintro e3 w3 ⟨rfl, hM3⟩
              obtain ⟨d3, hs3, st3, so3⟩ := hM3
              have K3 := Lib.hid (Lft.fin HO.out SP.out (by omega) (by omega) K2.out st3 so3)
              clear st3 so3
              go_wp2_with fail
              go_end0
              exact ⟨rfl, _, hs3, K3.out⟩
          · try (exfalso; omega)
            all_goals
              have hs1 : St (rotA d s m ((a + b) / 2 + m - s)) wr := by rw [show (a + b) / 2 + m - s = m by omega, rotA_id_right]; exact hs
              have hs2 := hs1
              have K2 := Lib.hid (Lft.none SP.out has hsm (by omega))
              have hs3 := hs2
              have K3 := Lib.hid (Lft.fin' HO.out SP.out (by omega) hme heb K2.out (by omega))
              go_wp2_with fail
              go_end0
              exact ⟨rfl, _, hs3, K3.out⟩
      · by_cases c2 : s < (a + b) / 2
        · by_cases c3 : a < s
          · try (exfalso; omega)
            all_goals
              have hs1 : St (rotA d s m ((a + b) / 2 + m - s)) wr := by rw [show s = m by omega, rotA_id_left]; exact hs
              go_wp2_with fail
              refine (HLC.out _ hs1 (by omega) (by omega)).mono ?_
              rintro e2 w2 ⟨rfl, hM2⟩
              obtain ⟨d2, hs2, st2, so2⟩ := hM2
              have K2 := Lib.hid (Lft.called SP.out hme st2 so2)
              clear st2 so2
              have hs3 := hs2
              have K3 := Lib.hid (Lft.fin' HO.out SP.out (by omega) hme heb K2.out (by omega))
              go_wp2_with fail
              go_end0
              exact ⟨rfl, _, hs3, K3.out⟩
          · try (exfalso; omega)
            all_goals
              have hs1 : St (rotA d s m ((a + b) / 2 + m - s)) wr := by rw [show s = m by omega, rotA_id_left]; exact hs
              have hs2 := hs1
              have K2 := Lib.hid (Lft.none SP.out has hsm (by omega))
              have hs3 := hs2
              have K3 := Lib.hid (Lft.fin' HO.out SP.out (by omega) hme heb K2.out (by omega))
              go_wp2_with fail
              go_end0
              exact ⟨rfl, _, hs3, K3.out⟩
        · try (exfalso; omega)
          all_goals
            have hs1 : St (rotA d s m ((a + b) / 2 + m - s)) wr := by rw [show s = m by omega, rotA_id_left]; exact hs
            have hs2 := hs1
            have K2 := Lib.hid (Lft.none SP.out has hsm (by omega))
            have hs3 := hs2
            have K3 := Lib.hid (Lft.fin' HO.out SP.out (by omega) hme heb K2.out (by omega))
            go_wp2_with fail
            go_end0
            exact ⟨rfl, _, hs3, K3.out⟩

set_option maxHeartbeats 1600000 in
set_option maxRecDepth 100000 in
theorem rec_small (H : Srt lt rv St) (hO : SWO lt) (k : Nat) (ih : RecIH St lt rv k) (d : Array α) (w : World) (a m b : Nat) (hk : b - a ≤ k + 1) (hS : St d w) (ham : a + 1 < m) (hmb : m + 1 < b) (hb : b ≤ d.size) (hsz : d.size < 4611686018427387904)
    (sA : SortedIn lt a m d) (sB : SortedIn lt m b d) (hbig : ¬ (a + b) / 2 < m) :
    Calls Tryd.prog 73 #[.iface 99 rv, .int .i64 a, .int .i64 m, .int .i64 b] w fun e w' => e = .returned (.tuple #[]) ∧ Merged lt St a b d w' := by
  have mL := H.mL
  have mS := H.mS
  have HA := Lib.hid sA
  have HB := Lib.hid sB
  have HO := Lib.hid hO
  have HIH := Lib.hid ih
  clear sA sB hO ih
  have hc0 : ((m : Int) - a == 1) = false := by rw [beq_eq_false_iff_ne]; omega
  have hc1 : ((b : Int) - m == 1) = false := by rw [beq_eq_false_iff_ne]; omega
  have hc2 : decide (((a : Int) + b) / 2 < m) = false := by exact decide_eq_false (by omega)
  go_enter Tryd.func73, Tryd.ntmps73
  go_wp2
  go_loopw [18, 19] (fun vs vr wr => ∃ (s r : Nat), vs = .int .i64 s ∧ vr = .int .i64 r ∧ a ≤ s ∧ s ≤ r ∧ r ≤ m ∧ St d wr ∧ Hid (Cut lt d (a) (m) ((a + b) / 2 + m - 1) s r)) (fun vs vr _ => (intOf vr).toNat - (intOf vs).toNat)
  case atStart => exact ⟨a, m, by first | rfl | (congr 1; omega), by first | rfl | (congr 1; omega), Nat.le_refl _, by omega, Nat.le_refl _, hS, ⟨fun c h1 h2 => by omega, fun c h1 h2 => by omega⟩⟩
  case round =>
    obtain ⟨s, r, rfl, rfl, h0s, hsr, hr0, hs, hC⟩ := hrel
    by_cases hlt : s < r
    · have hl := H.less d wr ((a + b) / 2 + m - 1 - (s + r) / 2) ((s + r) / 2) hs (by omega) (by omega)
      have e1 : (((s + r) / 2 : Nat) : Int) = ((s : Int) + r) / 2 := by omega
      have e2 : (((a + b) / 2 + m - 1 - (s + r) / 2 : Nat) : Int) = ((a : Int) + b) / 2 + m - 1 - ((s : Int) + r) / 2 := by omega
      rw [e1, e2] at hl
      have E1 := Lib.hid e1
      clear e1 e2
      cases hlv : lt d[(a + b) / 2 + m - 1 - (s + r) / 2]! d[(s + r) / 2]! with
      | false =>
        have HC' := Lib.hid (Cut.down HO.out hC.out HA.out HB.out (by omega) (by omega) (by omega) (by omega) hlv (by omega) (by omega) hr0)
        rw [hlv] at hl
        clear hlv
        go_wp2_with (go_at_call 97; refine hl.mono ?_; rintro e w' ⟨rfl, hs2⟩)
        go_roundw
        case rel => exact ⟨(s + r) / 2 + 1, r, by rw [← E1.out]; go_num, rfl, by omega, by omega, hr0, hs2, HC'⟩
        case measure => simp [intOf]; omega
      | true =>
        have HC' := Lib.hid (Cut.up HO.out hC.out HA.out HB.out (by omega) (by omega) (by omega) (by omega) hlv (by omega) (by omega))
        rw [hlv] at hl
        clear hlv
        go_wp2_with (go_at_call 97; refine hl.mono ?_; rintro e w' ⟨rfl, hs2⟩)
        go_roundw
        case rel => exact ⟨s, (s + r) / 2, rfl, by rw [E1.out], h0s, by omega, by omega, hs2, HC'⟩
        case measure => simp [intOf]; omega
    · obtain rfl : s = r := by omega
      have SP := Lib.hid (Split.of HO.out (mid := (a + b) / 2) rfl hb (by omega) (by omega) (s0 := a) (r0 := m) (by rw [if_neg hbig]) (by rw [if_neg hbig]) h0s hr0 HA.out HB.out hC.out)
      have ee : (((a + b) / 2 + m - s : Nat) : Int) = ((a : Int) + b) / 2 + m - s := by omega
      have em : (((a + b) / 2 : Nat) : Int) = ((a : Int) + b) / 2 := by omega
      have hsm : s ≤ (a + b) / 2 := by omega
      have has : a ≤ s := by omega
      have heb : (a + b) / 2 + m - s ≤ b := by omega
      have hme : (a + b) / 2 ≤ (a + b) / 2 + m - s := by omega
      have hrot := fun (c1 : s < m) (c2 : m < (a + b) / 2 + m - s) => rotate_any H d wr s m ((a + b) / 2 + m - s) hs c1 c2 (by omega) hsz
      simp only [ee] at hrot
      have hLc := fun w1 h1 (c1 : a < s) (c2 : s < (a + b) / 2) => HIH.out (rotA d s m ((a + b) / 2 + m - s)) w1 a s ((a + b) / 2) (by omega) h1 c1 c2 (by simp; omega) (by simpa using hsz) SP.out.o1 SP.out.o2
      simp only [em] at hLc
      have hRc := fun d2 w2 (h2 : St d2 w2) (k2 : Lft lt d a s m ((a + b) / 2 + m - s) b ((a + b) / 2) d2) (c1 : (a + b) / 2 < (a + b) / 2 + m - s) (c2 : (a + b) / 2 + m - s < b) => HIH.out d2 w2 ((a + b) / 2) ((a + b) / 2 + m - s) b (by omega) h2 c1 c2 (by rw [k2.size]; exact hb) (by rw [k2.size]; exact hsz) k2.o3 k2.o4
      simp only [em, ee] at hRc
      have HROT := Lib.hid hrot
      have HLC := Lib.hid hLc
      have HRC := Lib.hid hRc
      clear hrot hLc hRc ee em
      by_cases c1 : s < m
      · by_cases c2 : s < (a + b) / 2
        · by_cases c3 : a < s
          · by_cases c4 : (a + b) / 2 + m - s < b
            · try (exfalso; omega)
              all_goals
                go_wp2_with fail
                refine (HROT.out (by omega) (by omega)).mono ?_
                rintro e1 w1 ⟨rfl, hs1⟩
                go_wp2_with fail
                refine (HLC.out _ hs1 (by omega) (by omega)).mono ?_
                rintro e2 w2 ⟨rfl, hM2⟩
                obtain ⟨d2, hs2, st2, so2⟩ := hM2
                have K2 := Lib.hid (Lft.called SP.out hme st2 so2)
                clear st2 so2
                go_wp2_with fail
                refine (HRC.out _ _ hs2 K2.out (by omega) (by omega)).mono ?_
                rintro e3 w3 ⟨rfl, hM3⟩
                obtain ⟨d3, hs3, st3, so3⟩ := hM3
                have K3 := Lib.hid (Lft.fin HO.out SP.out (by omega) (by omega) K2.out st3 so3)
                clear st3 so3
                go_wp2_with fail
                go_end0
                exact ⟨rfl, _, hs3, K3.out⟩
            · try (exfalso; omega)
              all_goals
                go_wp2_with fail
                refine (HROT.out (by omega) (by omega)).mono ?_
                rintro e1 w1 ⟨rfl, hs1⟩
                go_wp2_with fail
                refine (HLC.out _ hs1 (by omega) (by omega)).mono ?_
                rintro e2 w2 ⟨rfl, hM2⟩
                obtain ⟨d2, hs2, st2, so2⟩ := hM2
                have K2 := Lib.hid (Lft.called SP.out hme st2 so2)
                clear st2 so2
                have hs3 := hs2
                have K3 := Lib.hid (Lft.fin' HO.out SP.out (by omega) hme heb K2.out (by omega))
                go_wp2_with fail
                go_end0
                exact ⟨rfl, _, hs3, K3.out⟩
          · by_cases c4 : (a + b) / 2 + m - s < b
            · try (exfalso; omega)
              all_goals
                go_wp2_with fail
                refine (HROT.out (by omega) (by omega)).mono ?_
                rintro e1 w1 ⟨rfl, hs1⟩
                have hs2 := hs1
                have K2 := Lib.hid (Lft.none SP.out has hsm (by omega))
                go_wp2_with fail
                refine (HRC.out _ _ hs2 K2.out (by omega) (by omega)).mono ?_
                rintro e3 w3 ⟨rfl, hM3⟩
                obtain ⟨d3, hs3, st3, so3⟩ := hM3
                have K3 := Lib.hid (Lft.fin HO.out SP.out (by omega) (by omega) K2.out st3 so3)
                clear st3 so3
                go_wp2_with fail
                go_end0
                exact ⟨rfl, _, hs3, K3.out⟩
            · try (exfalso; omega)
              all_goals
                go_wp2_with fail
                refine (HROT.out (by omega) (by omega)).mono ?_
                rintro e1 w1 ⟨rfl, hs1⟩
                have hs2 := hs1
                have K2 := Lib.hid (Lft.none SP.out has hsm (by omega))
                have hs3 := hs2
                have K3 := Lib.hid (Lft.fin' HO.out SP.out (by omega) hme heb K2.out (by omega))
                go_wp2_with fail
                go_end0
                exact ⟨rfl, _, hs3, K3.out⟩
        · by_cases c4 : (a + b) / 2 + m - s < b
          · try (exfalso; omega)
            all_goals
              have hs1 : St (rotA d s m ((a + b) / 2 + m - s)) wr := by rw [show (a + b) / 2 + m - s = m by omega, rotA_id_right]; exact hs
              have hs2 := hs1
              have K2 := Lib.hid (Lft.none SP.out has hsm (by omega))
              go_wp2_with fail
              refine (HRC.out _ _ hs2 K2.out (by omega) (by omega)).mono ?_
              rintro e3 w3 ⟨rfl, hM3⟩
              obtain ⟨d3, hs3, st3, so3⟩ := hM3
              have K3 := Lib.hid (Lft.fin HO.out SP.out (by omega) (by omega) K2.out st3 so3)
              clear st3 so3
              go_wp2_with fail
              go_end0
              exact ⟨rfl, _, hs3, K3.out⟩
          · try (exfalso; omega)
            all_goals
              have hs1 : St (rotA d s m ((a + b) / 2 + m - s)) wr := by rw [show (a + b) / 2 + m - s = m by omega, rotA_id_right]; exact hs
              have hs2 := hs1
              have K2 := Lib.hid (Lft.none SP.out has hsm (by omega))
              have hs3 := hs2
              have K3 := Lib.hid (Lft.fin' HO.out SP.out (by omega) hme heb K2.out (by omega))
              go_wp2_with fail
              go_end0
              exact ⟨rfl, _, hs3, K3.out⟩
      · by_cases c2 : s < (a + b) / 2
        · by_cases c3 : a < s
          · try (exfalso; omega)
            all_goals
              have hs1 : St (rotA d s m ((a + b) / 2 + m - s)) wr := by rw [show s = m by omega, rotA_id_left]; exact hs
              go_wp2_with fail
              refine (HLC.out _ hs1 (by omega) (by omega)).mono ?_
              rintro e2 w2 ⟨rfl, hM2⟩
              obtain ⟨d2, hs2, st2, so2⟩ := hM2
              have K2 := Lib.hid (Lft.called SP.out hme st2 so2)
              clear st2 so2
              have hs3 := hs2
              have K3 := Lib.hid (Lft.fin' HO.out SP.out (by omega) hme heb K2.out (by omega))
              go_wp2_with fail
              go_end0
              exact ⟨rfl, _, hs3, K3.out⟩
          · try (exfalso; omega)
            all_goals
              have hs1 : St (rotA d s m ((a + b) / 2 + m - s)) wr := by rw [show s = m by omega, rotA_id_left]; exact hs
              have hs2 := hs1
              have K2 := Lib.hid (Lft.none SP.out has hsm (by omega))
              have hs3 := hs2
              have K3 := Lib.hid (Lft.fin' HO.out SP.out (by omega) hme heb K2.out (by omega))
              go_wp2_with fail
              go_end0
              exact ⟨rfl, _, hs3, K3.out⟩
        · try (exfalso; omega)
          all_goals
            have hs1 : St (rotA d s m ((a + b) / 2 + m - s)) wr := by rw [show s = m by omega, rotA_id_left]; exact hs
            have hs2 := hs1
            have K2 := Lib.hid (Lft.none SP.out has hsm (by omega))
            have hs3 := hs2
            have K3 := Lib.hid (Lft.fin' HO.out SP.out (by omega) hme heb K2.out (by omega))
            go_wp2_with fail
            go_end0
            exact ⟨rfl, _, hs3, K3.out⟩

theorem symMerge_any (H : Srt lt rv St) (hO : SWO lt) : ∀ k, RecIH St lt rv k
  | 0 => fun d w a m b hk hS h1 h2 => by omega
  | k + 1 => fun d w a m b hk hS h1 h2 hb hsz sA sB => by
    by_cases c1 : m = a + 1
    · subst c1
      have := symMerge_left H hO d w a b hS h2 hb hsz sB
      rwa [show (a : Int) + 1 = ((a + 1 : Nat) : Int) by omega] at this
    · by_cases c2 : b = m + 1
      · subst c2
        have := symMerge_right H hO d w a m hS (by omega) hb hsz sA
        rwa [show (m : Int) + 1 = ((m + 1 : Nat) : Int) by omega] at this
      · by_cases c3 : (a + b) / 2 < m
        · exact rec_big H hO k (symMerge_any H hO k) d w a m b hk hS (by omega) (by omega) hb hsz sA sB c3
        · exact rec_small H hO k (symMerge_any H hO k) d w a m b hk hS (by omega) (by omega) hb hsz sA sB c3
end Go.Proofs.YtonajgipkpnpoaaDoor.SortS
