/- sort.symMerge over whatever two methods Less and Swap do: the two sorted parts become one, those alike in their order. -/
import Derived.Test.YtonajgipkpnpoaaDoorCSrt
import Derived.IntWalk
namespace Go.Proofs.YtonajgipkpnpoaaDoor.SortS
open Go.RowKit Go.Sort Go.Sst
variable {α : Type} [Inhabited α] {lt : α → α → Bool} {rv : Value} {St : Array α → World → Prop}

def Merged (lt : α → α → Bool) (St : Array α → World → Prop) (a b : Nat) (d : Array α) (w : World) : Prop :=
  ∃ d', St d' w ∧ StabIn lt a b d d' ∧ SortedIn lt a b d'

theorem left_yes (hO : SWO lt) {d : Array α} {a b h : Nat} (sB : SortedIn lt (a + 1) b d) (_h1 : a + 1 ≤ h) (h2 : h < b) (e : lt d[h]! d[a]! = true) : ∀ t, a + 1 ≤ t → t < h + 1 → lt d[t]! d[a]! = true := by
  intro t t1 t2
  by_cases c : t = h
  · subst c; exact e
  · have l := sB t h t1 (by omega) h2
    cases x : lt d[t]! d[a]! with
    | true => rfl
    | false => have := hO.ntrans _ _ _ l x; rw [e] at this; cases this

theorem left_no (hO : SWO lt) {d : Array α} {a b h : Nat} (sB : SortedIn lt (a + 1) b d) (h1 : a + 1 ≤ h) (e : lt d[h]! d[a]! = false) : ∀ t, h ≤ t → t < b → lt d[t]! d[a]! = false := by
  intro t t1 t2
  by_cases c : t = h
  · subst c; exact e
  · exact hO.ntrans _ _ _ (sB h t h1 (by omega) t2) e

theorem right_no (hO : SWO lt) {d : Array α} {a m h : Nat} (sA : SortedIn lt a m d) (h2 : h < m) (e : lt d[m]! d[h]! = false) : ∀ t, a ≤ t → t < h + 1 → lt d[m]! d[t]! = false := by
  intro t t1 t2
  by_cases c : t = h
  · subst c; exact e
  · exact hO.ntrans _ _ _ e (sA t h t1 (by omega) h2)

theorem right_yes (hO : SWO lt) {d : Array α} {a m h : Nat} (sA : SortedIn lt a m d) (h1 : a ≤ h) (e : lt d[m]! d[h]! = true) : ∀ t, h ≤ t → t < m → lt d[m]! d[t]! = true := by
  intro t t1 t2
  by_cases c : t = h
  · subst c; exact e
  · have l := sA h t h1 (by omega) t2
    cases x : lt d[m]! d[t]! with
    | true => rfl
    | false => have := hO.ntrans _ _ _ x l; rw [e] at this; cases this

set_option maxRecDepth 100000 in
theorem symMerge_left (H : Srt lt rv St) (hO : SWO lt) (d : Array α) (w : World) (a b : Nat) (hS : St d w) (hab : a + 1 < b) (hb : b ≤ d.size) (hsz : d.size < 4611686018427387904)
    (sB : SortedIn lt (a + 1) b d) :
    Calls Tryd.prog 73 #[.iface 99 rv, .int .i64 a, .int .i64 ((a : Int) + 1), .int .i64 b] w fun e w' => e = .returned (.tuple #[]) ∧ Merged lt St a b d w' := by
  have mL := H.mL
  have mS := H.mS
  have HB := Lib.hid sB
  have HO := Lib.hid hO
  clear sB hO
  have hc0 : ((a : Int) + 1 - a == 1) = true := by rw [beq_iff_eq]; omega
  go_enter Tryd.func73, Tryd.ntmps73
  go_wp2
  go_loopw [8, 9] (fun vi vj wr => ∃ (i j : Nat), vi = .int .i64 i ∧ vj = .int .i64 j ∧ a + 1 ≤ i ∧ i ≤ j ∧ j ≤ b ∧ St d wr ∧ Hid (∀ h, a + 1 ≤ h → h < i → lt d[h]! d[a]! = true) ∧ Hid (∀ h, j ≤ h → h < b → lt d[h]! d[a]! = false)) (fun vi vj _ => (intOf vj).toNat - (intOf vi).toNat)
  case atStart => exact ⟨a + 1, b, by go_num, rfl, by omega, by omega, by omega, hS, fun h h1 h2 => by omega, fun h h1 h2 => by omega⟩
  case round =>
    obtain ⟨i, j, rfl, rfl, hai, hij, hjb, hs, hL, hR⟩ := hrel
    by_cases hlt : i < j
    · have hl := H.less d wr ((i + j) / 2) a hs (by omega) (by omega)
      have eh : (((i + j) / 2 : Nat) : Int) = ((i : Int) + j) / 2 := by omega
      rw [eh] at hl
      have EH := Lib.hid eh
      clear eh
      cases hlv : lt d[(i + j) / 2]! d[a]! with
      | true =>
        have HL' := Lib.hid (left_yes HO.out HB.out (by omega) (by omega) hlv)
        rw [hlv] at hl
        clear hlv
        go_wp2_with (go_at_call 97; refine hl.mono ?_; rintro e w' ⟨rfl, hs2⟩)
        go_roundw
        case rel => exact ⟨(i + j) / 2 + 1, j, by rw [← EH.out]; go_num, rfl, by omega, by omega, hjb, hs2, HL', hR⟩
        case measure => simp [intOf]; omega
      | false =>
        have HR' := Lib.hid (left_no HO.out HB.out (by omega) hlv)
        rw [hlv] at hl
        clear hlv
        go_wp2_with (go_at_call 97; refine hl.mono ?_; rintro e w' ⟨rfl, hs2⟩)
        go_roundw
        case rel => exact ⟨i, (i + j) / 2, rfl, by rw [EH.out], by omega, by omega, by omega, hs2, hL, HR'⟩
        case measure => simp [intOf]; omega
    · obtain rfl : i = j := by omega
      have hfin := one_left HO.out d a i b hai hjb hb HB.out hL.out hR.out
      have HF := Lib.hid hfin
      clear hfin
      go_wp2
      go_loopw [11] (fun vk wr2 => ∃ k : Nat, vk = .int .i64 k ∧ a ≤ k ∧ k + 1 ≤ i ∧ St (rotA d a (a + 1) (k + 1)) wr2) (fun vk _ => i - (intOf vk).toNat)
      case atStart => exact ⟨a, rfl, by omega, by omega, by rw [rotA_id_right]; exact hs⟩
      case round =>
        obtain ⟨k, rfl, hak, hki, hs2⟩ := hrel
        by_cases hk : k + 1 < i
        · have hsw := H.swap _ _ k (k + 1) hs2 (by simp; omega) (by simp; omega)
          rw [chain_up d a k hak (by omega)] at hsw
          have ek : ((k + 1 : Nat) : Int) = (k : Int) + 1 := by omega
          rw [ek] at hsw
          clear ek
          go_wp2_with (go_at_call 98; refine hsw.mono ?_; rintro e w' ⟨rfl, hs3⟩)
          go_roundw
          case rel => exact ⟨k + 1, by go_num, by omega, by omega, hs3⟩
          case measure => simp [intOf]; omega
        · have hs3 : St (rotA d a (a + 1) i) wr := by rw [show i = k + 1 by omega]; exact hs2
          go_wp2
          exact bodyPost_ret (results_none rfl _ _ _) rfl ⟨rfl, _, hs3, HF.out⟩

set_option maxRecDepth 100000 in
theorem symMerge_right (H : Srt lt rv St) (hO : SWO lt) (d : Array α) (w : World) (a m : Nat) (hS : St d w) (hab : a + 1 < m) (hb : m + 1 ≤ d.size) (hsz : d.size < 4611686018427387904)
    (sA : SortedIn lt a m d) :
    Calls Tryd.prog 73 #[.iface 99 rv, .int .i64 a, .int .i64 m, .int .i64 ((m : Int) + 1)] w fun e w' => e = .returned (.tuple #[]) ∧ Merged lt St a (m + 1) d w' := by
  have mL := H.mL
  have mS := H.mS
  have HA := Lib.hid sA
  have HO := Lib.hid hO
  clear sA hO
  have hc0 : ((m : Int) - a == 1) = false := by rw [beq_eq_false_iff_ne]; omega
  have hc1 : ((m : Int) + 1 - m == 1) = true := by rw [beq_iff_eq]; omega
  go_enter Tryd.func73, Tryd.ntmps73
  go_wp2
  go_loopw [12, 13] (fun vi vj wr => ∃ (i j : Nat), vi = .int .i64 i ∧ vj = .int .i64 j ∧ a ≤ i ∧ i ≤ j ∧ j ≤ m ∧ St d wr ∧ Hid (∀ h, a ≤ h → h < i → lt d[m]! d[h]! = false) ∧ Hid (∀ h, j ≤ h → h < m → lt d[m]! d[h]! = true)) (fun vi vj _ => (intOf vj).toNat - (intOf vi).toNat)
  case atStart => exact ⟨a, m, rfl, rfl, by omega, by omega, by omega, hS, fun h h1 h2 => by omega, fun h h1 h2 => by omega⟩
  case round =>
    obtain ⟨i, j, rfl, rfl, hai, hij, hjb, hs, hL, hR⟩ := hrel
    by_cases hlt : i < j
    · have hl := H.less d wr m ((i + j) / 2) hs (by omega) (by omega)
      have eh : (((i + j) / 2 : Nat) : Int) = ((i : Int) + j) / 2 := by omega
      rw [eh] at hl
      have EH := Lib.hid eh
      clear eh
      cases hlv : lt d[m]! d[(i + j) / 2]! with
      | false =>
        have HL' := Lib.hid (right_no HO.out HA.out (by omega) hlv)
        rw [hlv] at hl
        clear hlv
        go_wp2_with (go_at_call 97; refine hl.mono ?_; rintro e w' ⟨rfl, hs2⟩)
        go_roundw
        case rel => exact ⟨(i + j) / 2 + 1, j, by rw [← EH.out]; go_num, rfl, by omega, by omega, hjb, hs2, HL', hR⟩
        case measure => simp [intOf]; omega
      | true =>
        have HR' := Lib.hid (right_yes HO.out HA.out (by omega) hlv)
        rw [hlv] at hl
        clear hlv
        go_wp2_with (go_at_call 97; refine hl.mono ?_; rintro e w' ⟨rfl, hs2⟩)
        go_roundw
        case rel => exact ⟨i, (i + j) / 2, rfl, by rw [EH.out], by omega, by omega, by omega, hs2, hL, HR'⟩
        case measure => simp [intOf]; omega
    · obtain rfl : i = j := by omega
      have hfin := one_right HO.out d a i m hai hjb hb HA.out hL.out hR.out
      have HF := Lib.hid hfin
      clear hfin
      go_wp2
      go_loopw [15] (fun vk wr2 => ∃ k : Nat, vk = .int .i64 k ∧ i ≤ k ∧ k ≤ m ∧ St (rotA d k m (m + 1)) wr2) (fun vk _ => (intOf vk).toNat)
      case atStart => exact ⟨m, rfl, by omega, by omega, by rw [rotA_id_left]; exact hs⟩
      case round =>
        obtain ⟨k, rfl, hak, hki, hs2⟩ := hrel
        by_cases hk : i < k
        · obtain ⟨q, hq⟩ : ∃ q, k = q + 1 := ⟨k - 1, by omega⟩
          have hsw := H.swap _ _ k (k - 1) hs2 (by simp; omega) (by simp; omega)
          have e2 : swp (rotA d k m (m + 1)) k (k - 1) = rotA d (k - 1) m (m + 1) := by
            rw [hq, show q + 1 - 1 = q by omega]; exact chain_down d q m (by omega) (by omega)
          have ek : ((k - 1 : Nat) : Int) = (k : Int) - 1 := by omega
          rw [e2, ek] at hsw
          clear ek e2 hq
          go_wp2_with (go_at_call 98; refine hsw.mono ?_; rintro e w' ⟨rfl, hs3⟩)
          go_roundw
          case rel => exact ⟨k - 1, by congr 1; omega, by omega, by omega, hs3⟩
          case measure => simp [intOf]; omega
        · have hs3 : St (rotA d i m (m + 1)) wr := by rw [show i = k by omega]; exact hs2
          go_wp2
          exact bodyPost_ret (results_none rfl _ _ _) rfl ⟨rfl, _, hs3, HF.out⟩
end Go.Proofs.YtonajgipkpnpoaaDoor.SortS
