/- sort's own functions over an interface value, stated over whatever two methods Less and Swap do. sort.symMerge over whatever two methods Less and Swap do: the two sorted parts become one, those alike in their order. sort.symMerge's recursion over whatever two methods Less and Swap do. -/
import Derived.Test.YtonajgipkpnpoaaGreatDoorProg
import Derived.Test.YtonajgipkpnpoaaGreatDoorC03
import Derived.WalkKit
import Derived.KernelRfl
import Derived.Outline
import Derived.Deep.LoopGhost
import Derived.Lib.Hide
import Derived.Shelf.GgSortFunc.RowK
import Derived.IntWalk
namespace Go.Proofs.YtonajgipkpnpoaaGreatDoor.SortS
open Go.RowKit Go.Sort Go.Sst
structure Srt {α : Type} [Inhabited α] (lt : α → α → Bool) (rv : Value) (St : Array α → World → Prop) : Prop where
  less : ∀ (d : Array α) (w : World) (i j : Nat), St d w → i < d.size → j < d.size → Calls Tryz.prog 187 #[rv, .int .i64 i, .int .i64 j] w fun e w' => e = .returned (.bool (lt d[i]! d[j]!)) ∧ St d w'
  swap : ∀ (d : Array α) (w : World) (i j : Nat), St d w → i < d.size → j < d.size → Calls Tryz.prog 188 #[rv, .int .i64 i, .int .i64 j] w fun e w' => e = .returned (.tuple #[]) ∧ St (swp d i j) w'
  len : ∀ (d : Array α) (w : World), St d w → Calls Tryz.prog 186 #[rv] w fun e w' => e = .returned (.int .i64 d.size) ∧ St d w'
  mN : ∀ w, Sem.run Tryz.prog (method 331 125 rv "Len") w = .ok (186, rv) w
  mL : ∀ w, Sem.run Tryz.prog (method 331 125 rv "Less") w = .ok (187, rv) w
  mS : ∀ w, Sem.run Tryz.prog (method 331 125 rv "Swap") w = .ok (188, rv) w
variable {α : Type} [Inhabited α] {lt : α → α → Bool} {rv : Value} {St : Array α → World → Prop}
set_option maxRecDepth 100000 in
theorem swapRange_any (H : Srt lt rv St) (d : Array α) (w : World) (a b n : Nat) (hS : St d w) (hab : a + n ≤ b) (hbn : b + n ≤ d.size) (hsz : d.size < 4611686018427387904) :
    Calls Tryz.prog 151 #[.iface 125 rv, .int .i64 a, .int .i64 b, .int .i64 n] w fun e w' => e = .returned (.tuple #[]) ∧ St (swR d a b n) w' := by
  have mS := H.mS
  go_enter Tryz.func151, Tryz.ntmps151
  go_wp2
  go_loopw [8] (fun i wr => ∃ k : Nat, i = .int .i64 k ∧ k ≤ n ∧ St (swR d a b k) wr) (fun i _ => n - (intOf i).toNat)
  case atStart => exact ⟨0, rfl, by omega, by rw [swR_zero]; exact hS⟩
  case round =>
    obtain ⟨k, rfl, hk, hs⟩ := hrel
    by_cases hlt : k < n
    · have hsw := H.swap _ _ (a + k) (b + k) hs (by simp; omega) (by simp; omega)
      rw [swR_succ d a b k (by omega) (by omega) (by omega)] at hsw
      have e1 : (((a + k : Nat)) : Int) = (a : Int) + k := by omega
      have e2 : (((b + k : Nat)) : Int) = (b : Int) + k := by omega
      rw [e1, e2] at hsw
      clear e1 e2
      go_wp2_with (go_at_call 188; refine hsw.mono ?_; rintro e w' ⟨rfl, hs'⟩)
      go_roundw
      case rel => exact ⟨k + 1, by go_num, by omega, hs'⟩
      case measure => simp [intOf]; omega
    · obtain rfl : k = n := by omega
      go_wp2
      go_end0
      exact ⟨rfl, hs⟩
set_option maxRecDepth 100000 in
theorem rotate_any (H : Srt lt rv St) (d : Array α) (w : World) (a m b : Nat) (hS : St d w) (ham : a < m) (hmb : m < b) (hb : b ≤ d.size) (hsz : d.size < 4611686018427387904) :
    Calls Tryz.prog 145 #[.iface 125 rv, .int .i64 a, .int .i64 m, .int .i64 b] w fun e w' => e = .returned (.tuple #[]) ∧ St (rotA d a m b) w' := by
  go_enter Tryz.func145, Tryz.ntmps145
  go_wp2
  go_loopw [8, 9] (fun vi vj wr => ∃ (i j : Nat) (dk : Array α), vi = .int .i64 i ∧ vj = .int .i64 j ∧ 0 < i ∧ 0 < j ∧ i ≤ m ∧ m + j ≤ d.size ∧ dk.size = d.size ∧ St dk wr ∧ Hid (rotA dk (m - i) m (m + j) = rotA d a m b)) (fun vi vj _ => (intOf vi).toNat + (intOf vj).toNat)
  case atStart => exact ⟨m - a, b - m, d, by congr 1; omega, by congr 1; omega, by omega, by omega, by omega, by omega, rfl, hS, by rw [show m - (m - a) = a by omega, show m + (b - m) = b by omega]; exact rfl⟩
  case round =>
    obtain ⟨i, j, dk, rfl, rfl, h0i, h0j, him, hjd, hds, hs, hR⟩ := hrel
    have emi : (((m - i : Nat)) : Int) = (m : Int) - i := by omega
    have HDS := Lib.hid hds
    by_cases hij : i = j
    · subst hij
      have hsr := swapRange_any H dk wr (m - i) m i hs (by omega) (by omega) (by omega)
      rw [emi, rot_eq dk m i him (by omega), hR.out] at hsr
      clear emi hds
      have hb0 : ((i : Int) != i) = false := by simp
      go_wp2_with (go_at_call 151; refine hsr.mono ?_; rintro e w' ⟨rfl, hs'⟩)
      go_end0
      exact ⟨rfl, hs'⟩
    · have hb0 : ((i : Int) != j) = true := by rw [bne_iff_ne]; omega
      by_cases hlt : j < i
      · have hsr := swapRange_any H dk wr (m - i) m j hs (by omega) (by omega) (by omega)
        rw [emi] at hsr
        have hR' : Hid (rotA (swR dk (m - i) m j) (m - (i - j)) m (m + j) = rotA d a m b) := by
          show _ = _; rw [rot_gt dk m i j him (by omega) hlt]; exact hR
        clear emi hds
        go_wp2_with (go_at_call 151; refine hsr.mono ?_; rintro e w' ⟨rfl, hs'⟩)
        go_roundw
        case rel => exact ⟨i - j, j, _, by congr 1; omega, rfl, by omega, by omega, by omega, by omega, by rw [size_swR]; exact HDS.out, hs', hR'⟩
        case measure => simp [intOf]; omega
      · have hsr := swapRange_any H dk wr (m - i) (m + j - i) i hs (by omega) (by omega) (by omega)
        have emj : (((m + j - i : Nat)) : Int) = (m : Int) + j - i := by omega
        rw [emi, emj] at hsr
        have hR' : Hid (rotA (swR dk (m - i) (m + j - i) i) (m - i) m (m + (j - i)) = rotA d a m b) := by
          show _ = _; rw [rot_lt dk m i j him (by omega) (by omega)]; exact hR
        clear emi emj hds
        go_wp2_with (go_at_call 151; refine hsr.mono ?_; rintro e w' ⟨rfl, hs'⟩)
        go_roundw
        case rel => exact ⟨i, j - i, _, rfl, by congr 1; omega, by omega, by omega, by omega, by omega, by rw [size_swR]; exact HDS.out, hs', hR'⟩
        case measure => simp [intOf]; omega
set_option maxRecDepth 100000 in
theorem insertionSort_any (H : Srt lt rv St) (d : Array α) (w : World) (a b : Nat) (hS : St d w) (hab : a ≤ b) (hb : b ≤ d.size) (hsz : d.size < 4611686018427387904) :
    Calls Tryz.prog 123 #[.iface 125 rv, .int .i64 a, .int .i64 b] w fun e w' => e = .returned (.tuple #[]) ∧ St (Sort.insertionSort lt d a b) w' := by
  have mL := H.mL
  have mS := H.mS
  go_enter Tryz.func123, Tryz.ntmps123
  go_wp2
  go_loopw [6] (fun vi wr => ∃ (i : Nat) (dk : Array α), vi = .int .i64 i ∧ a < i ∧ i ≤ b + 1 ∧ dk.size = d.size ∧ St dk wr ∧ Hid (insOuter lt a b i dk = insOuter lt a b (a + 1) d)) (fun vi _ => b + 1 - (intOf vi).toNat)
  case atStart => exact ⟨a + 1, d, by go_num, by omega, by omega, rfl, hS, rfl⟩
  case round =>
    obtain ⟨i, dk, rfl, hai, hib, hsk, hs, hO⟩ := hrel
    have HSK := Lib.hid hsk
    clear hsk
    by_cases hlt : i < b
    · go_wp2
      go_loopw [7] (fun vj wr2 => ∃ (j : Nat) (dj : Array α), vj = .int .i64 j ∧ a ≤ j ∧ j ≤ i ∧ Hid (dj.size = d.size) ∧ St dj wr2 ∧ Hid (insInner lt a j dj = insInner lt a i dk)) (fun vj _ => (intOf vj).toNat)
      case atStart => exact ⟨i, dk, rfl, by omega, Nat.le_refl _, HSK, hs, rfl⟩
      case round =>
        obtain ⟨j, dj, rfl, haj, hji, HSJ, hs2, hI⟩ := hrel
        have out : ∀ w2, (j ≤ a ∨ lt dj[j]! dj[j - 1]! = false) → St dj w2 → ∃ (i' : Nat) (dk' : Array α), Value.int .i64 ((i : Int) + 1) = .int .i64 i' ∧ a < i' ∧ i' ≤ b + 1 ∧ dk'.size = d.size ∧ St dk' w2 ∧ Hid (insOuter lt a b i' dk' = insOuter lt a b (a + 1) d) := fun w2 hst hS2 =>
          ⟨i + 1, dj, by go_num, by omega, by omega, HSJ.out, hS2, by show _ = _; rw [← hO.out, insOuter_go _ _ _ _ _ hlt, ← hI.out, insInner_stop _ _ _ _ hst]⟩
        have OUT := Lib.hid out
        clear out
        have hsz2 : j < dj.size := by rw [HSJ.out]; omega
        by_cases hja : a < j
        · have hl := H.less dj wr j (j - 1) hs2 (by omega) (by omega)
          have ej : (((j - 1 : Nat) : Int)) = (j : Int) - 1 := by omega
          have hsw := fun w2 h2 => H.swap dj w2 j (j - 1) h2 (by omega) (by omega)
          rw [ej] at hl
          simp only [ej] at hsw
          clear ej
          cases hlv : lt dj[j]! dj[j - 1]! with
          | true =>
            rw [hlv] at hl
            have HLV := Lib.hid hlv
            clear hlv
            go_wp2_with (first | (go_at_call 187; refine hl.mono ?_; rintro e w' ⟨rfl, hs3⟩) | (go_at_call 188; refine (hsw _ (by assumption)).mono ?_; rintro e w' ⟨rfl, hs4⟩))
            go_roundw
            case rel => exact ⟨j - 1, _, by congr 1; omega, by omega, by omega, by show _ = _; rw [size_swp]; exact HSJ.out, hs4, by show _ = _; rw [← hI.out, insInner_go lt a j dj hja HLV.out]⟩
            case measure => simp [intOf]; omega
          | false =>
            rw [hlv] at hl
            have HLV := Lib.hid hlv
            clear hlv
            go_wp2_with (go_at_call 187; refine hl.mono ?_; rintro e w' ⟨rfl, hs3⟩)
            go_roundw
            case rel => exact OUT.out _ (Or.inr HLV.out) hs3
            case measure => simp [intOf]; omega
        · go_wp2
          go_roundw
          case rel => exact OUT.out _ (Or.inl (by omega)) hs2
          case measure => simp [intOf]; omega
    · go_wp2
      go_end0
      exact ⟨rfl, by unfold Sort.insertionSort; rw [← hO.out, insOuter_stop _ _ _ _ _ hlt]; exact hs⟩
end Go.Proofs.YtonajgipkpnpoaaGreatDoor.SortS
namespace Go.Proofs.YtonajgipkpnpoaaGreatDoor.SortS
open Go.RowKit Go.Sort Go.Sst
variable {α : Type} [Inhabited α] {lt : α → α → Bool} {rv : Value} {St : Array α → World → Prop}
def Merged (lt : α → α → Bool) (St : Array α → World → Prop) (a b : Nat) (d : Array α) (w : World) : Prop :=
  ∃ d', St d' w ∧ StabIn lt a b d d' ∧ SortedIn lt a b d'
theorem left_yes (hO : SWO lt) {d : Array α} {a b h : Nat} (sB : SortedIn lt (a + 1) b d) (_h1 : a + 1 ≤ h) (h2 : h < b) (e : lt d[h]! d[a]! = true) : ∀ t, a + 1 ≤ t → t < h + 1 → lt d[t]! d[a]! = true := by
  intro t t1 t2
  by_cases c : t = h
  · subst c; exact e
  · have l := sB t h t1 (by omega) h2
    cases x : lt d[t]! d[a]! with
    | true => rfl
    | false => have := hO.ntrans _ _ _ l x; rw [e] at this; cases this
theorem left_no (hO : SWO lt) {d : Array α} {a b h : Nat} (sB : SortedIn lt (a + 1) b d) (h1 : a + 1 ≤ h) (e : lt d[h]! d[a]! = false) : ∀ t, h ≤ t → t < b → lt d[t]! d[a]! = false := by
  intro t t1 t2
  by_cases c : t = h
  · subst c; exact e
  · exact hO.ntrans _ _ _ (sB h t h1 (by omega) t2) e
theorem right_no (hO : SWO lt) {d : Array α} {a m h : Nat} (sA : SortedIn lt a m d) (h2 : h < m) (e : lt d[m]! d[h]! = false) : ∀ t, a ≤ t → t < h + 1 → lt d[m]! d[t]! = false := by
  intro t t1 t2
  by_cases c : t = h
  · subst c; exact e
  · exact hO.ntrans _ _ _ e (sA t h t1 (by omega) h2)
theorem right_yes (hO : SWO lt) {d : Array α} {a m h : Nat} (sA : SortedIn lt a m d) (h1 : a ≤ h) (e : lt d[m]! d[h]! = true) : ∀ t, h ≤ t → t < m → lt d[m]! d[t]! = true := by
  intro t t1 t2
  by_cases c : t = h
  · subst c; exact e
  · have l := sA h t h1 (by omega) t2
    cases x : lt d[m]! d[t]! with
    | true => rfl
    | false => have := hO.ntrans _ _ _ x l; rw [e] at this; cases this
set_option maxRecDepth 100000 in
theorem symMerge_left (H : Srt lt rv St) (hO : SWO lt) (d : Array α) (w : World) (a b : Nat) (hS : St d w) (hab : a + 1 < b) (hb : b ≤ d.size) (hsz : d.size < 4611686018427387904)
    (sB : SortedIn lt (a + 1) b d) :
    Calls Tryz.prog 124 #[.iface 125 rv, .int .i64 a, .int .i64 ((a : Int) + 1), .int .i64 b] w fun e w' => e = .returned (.tuple #[]) ∧ Merged lt St a b d w' := by
  have mL := H.mL
  have mS := H.mS
  have HB := Lib.hid sB
  have HO := Lib.hid hO
  clear sB hO
  have hc0 : ((a : Int) + 1 - a == 1) = true := by rw [beq_iff_eq]; omega
  go_enter Tryz.func124, Tryz.ntmps124
  go_wp2
  go_loopw [8, 9] (fun vi vj wr => ∃ (i j : Nat), vi = .int .i64 i ∧ vj = .int .i64 j ∧ a + 1 ≤ i ∧ i ≤ j ∧ j ≤ b ∧ St d wr ∧ Hid (∀ h, a + 1 ≤ h → h < i → lt d[h]! d[a]! = true) ∧ Hid (∀ h, j ≤ h → h < b → lt d[h]! d[a]! = false)) (fun vi vj _ => (intOf vj).toNat - (intOf vi).toNat)
  case atStart => exact ⟨a + 1, b, by go_num, rfl, by omega, by omega, by omega, hS, fun h h1 h2 => by omega, fun h h1 h2 => by omega⟩
  case round =>
    obtain ⟨i, j, rfl, rfl, hai, hij, hjb, hs, hL, hR⟩ := hrel
    by_cases hlt : i < j
    · have hl := H.less d wr ((i + j) / 2) a hs (by omega) (by omega)
      have eh : (((i + j) / 2 : Nat) : Int) = ((i : Int) + j) / 2 := by omega
      rw [eh] at hl
      have EH := Lib.hid eh
      clear eh
      cases hlv : lt d[(i + j) / 2]! d[a]! with
      | true =>
        have HL' := Lib.hid (left_yes HO.out HB.out (by omega) (by omega) hlv)
        rw [hlv] at hl
        clear hlv
        go_wp2_with (go_at_call 187; refine hl.mono ?_; rintro e w' ⟨rfl, hs2⟩)
        go_roundw
        case rel => exact ⟨(i + j) / 2 + 1, j, by rw [← EH.out]; go_num, rfl, by omega, by omega, hjb, hs2, HL', hR⟩
        case measure => simp [intOf]; omega
      | false =>
        have HR' := Lib.hid (left_no HO.out HB.out (by omega) hlv)
        rw [hlv] at hl
        clear hlv
        go_wp2_with (go_at_call 187; refine hl.mono ?_; rintro e w' ⟨rfl, hs2⟩)
        go_roundw
        case rel => exact ⟨i, (i + j) / 2, rfl, by rw [EH.out], by omega, by omega, by omega, hs2, hL, HR'⟩
        case measure => simp [intOf]; omega
    · obtain rfl : i = j := by omega
      have hfin := one_left HO.out d a i b hai hjb hb HB.out hL.out hR.out
      have HF := Lib.hid hfin
      clear hfin
      go_wp2
      go_loopw [11] (fun vk wr2 => ∃ k : Nat, vk = .int .i64 k ∧ a ≤ k ∧ k + 1 ≤ i ∧ St (rotA d a (a + 1) (k + 1)) wr2) (fun vk _ => i - (intOf vk).toNat)
      case atStart => exact ⟨a, rfl, by omega, by omega, by rw [rotA_id_right]; exact hs⟩
      case round =>
        obtain ⟨k, rfl, hak, hki, hs2⟩ := hrel
        by_cases hk : k + 1 < i
        · have hsw := H.swap _ _ k (k + 1) hs2 (by simp; omega) (by simp; omega)
          rw [chain_up d a k hak (by omega)] at hsw
          have ek : ((k + 1 : Nat) : Int) = (k : Int) + 1 := by omega
          rw [ek] at hsw
          clear ek
          go_wp2_with (go_at_call 188; refine hsw.mono ?_; rintro e w' ⟨rfl, hs3⟩)
          go_roundw
          case rel => exact ⟨k + 1, by go_num, by omega, by omega, hs3⟩
          case measure => simp [intOf]; omega
        · have hs3 : St (rotA d a (a + 1) i) wr := by rw [show i = k + 1 by omega]; exact hs2
          go_wp2
          exact bodyPost_ret (results_none rfl _ _ _) rfl ⟨rfl, _, hs3, HF.out⟩
set_option maxRecDepth 100000 in
theorem symMerge_right (H : Srt lt rv St) (hO : SWO lt) (d : Array α) (w : World) (a m : Nat) (hS : St d w) (hab : a + 1 < m) (hb : m + 1 ≤ d.size) (hsz : d.size < 4611686018427387904)
    (sA : SortedIn lt a m d) :
    Calls Tryz.prog 124 #[.iface 125 rv, .int .i64 a, .int .i64 m, .int .i64 ((m : Int) + 1)] w fun e w' => e = .returned (.tuple #[]) ∧ Merged lt St a (m + 1) d w' := by
  have mL := H.mL
  have mS := H.mS
  have HA := Lib.hid sA
  have HO := Lib.hid hO
  clear sA hO
  have hc0 : ((m : Int) - a == 1) = false := by rw [beq_eq_false_iff_ne]; omega
  have hc1 : ((m : Int) + 1 - m == 1) = true := by rw [beq_iff_eq]; omega
  go_enter Tryz.func124, Tryz.ntmps124
  go_wp2
  go_loopw [12, 13] (fun vi vj wr => ∃ (i j : Nat), vi = .int .i64 i ∧ vj = .int .i64 j ∧ a ≤ i ∧ i ≤ j ∧ j ≤ m ∧ St d wr ∧ Hid (∀ h, a ≤ h → h < i → lt d[m]! d[h]! = false) ∧ Hid (∀ h, j ≤ h → h < m → lt d[m]! d[h]! = true)) (fun vi vj _ => (intOf vj).toNat - (intOf vi).toNat)
  case atStart => exact ⟨a, m, rfl, rfl, by omega, by omega, by omega, hS, fun h h1 h2 => by omega, fun h h1 h2 => by omega⟩
  case round =>
    obtain ⟨i, j, rfl, rfl, hai, hij, hjb, hs, hL, hR⟩ := hrel
    by_cases hlt : i < j
    · have hl := H.less d wr m ((i + j) / 2) hs (by omega) (by omega)
      have eh : (((i + j) / 2 : Nat) : Int) = ((i : Int) + j) / 2 := by omega
      rw [eh] at hl
      have EH := Lib.hid eh
      clear eh
      cases hlv : lt d[m]! d[(i + j) / 2]! with
      | false =>
        have HL' := Lib.hid (right_no HO.out HA.out (by omega) hlv)
        rw [hlv] at hl
        clear hlv
        go_wp2_with (go_at_call 187; refine hl.mono ?_; rintro e w' ⟨rfl, hs2⟩)
        go_roundw
        case rel => exact ⟨(i + j) / 2 + 1, j, by rw [← EH.out]; go_num, rfl, by omega, by omega, hjb, hs2, HL', hR⟩
        case measure => simp [intOf]; omega
      | true =>
        have HR' := Lib.hid (right_yes HO.out HA.out (by omega) hlv)
        rw [hlv] at hl
        clear hlv
        go_wp2_with (go_at_call 187; refine hl.mono ?_; rintro e w' ⟨rfl, hs2⟩)
        go_roundw
        case rel => exact ⟨i, (i + j) / 2, rfl, by rw [EH.out], by omega, by omega, by omega, hs2, hL, HR'⟩
        case measure => simp [intOf]; omega
    · obtain rfl : i = j := by omega
      have hfin := one_right HO.out d a i m hai hjb hb HA.out hL.out hR.out
      have HF := Lib.hid hfin
      clear hfin
      go_wp2
      go_loopw [15] (fun vk wr2 => ∃ k : Nat, vk = .int .i64 k ∧ i ≤ k ∧ k ≤ m ∧ St (rotA d k m (m + 1)) wr2) (fun vk _ => (intOf vk).toNat)
      case atStart => exact ⟨m, rfl, by omega, by omega, by rw [rotA_id_left]; exact hs⟩
      case round =>
        obtain ⟨k, rfl, hak, hki, hs2⟩ := hrel
        by_cases hk : i < k
        · obtain ⟨q, hq⟩ : ∃ q, k = q + 1 := ⟨k - 1, by omega⟩
          have hsw := H.swap _ _ k (k - 1) hs2 (by simp; omega) (by simp; omega)
          have e2 : swp (rotA d k m (m + 1)) k (k - 1) = rotA d (k - 1) m (m + 1) := by
            rw [hq, show q + 1 - 1 = q by omega]; exact chain_down d q m (by omega) (by omega)
          have ek : ((k - 1 : Nat) : Int) = (k : Int) - 1 := by omega
          rw [e2, ek] at hsw
          clear ek e2 hq
          go_wp2_with (go_at_call 188; refine hsw.mono ?_; rintro e w' ⟨rfl, hs3⟩)
          go_roundw
          case rel => exact ⟨k - 1, by congr 1; omega, by omega, by omega, hs3⟩
          case measure => simp [intOf]; omega
        · have hs3 : St (rotA d i m (m + 1)) wr := by rw [show i = k by omega]; exact hs2
          go_wp2
          exact bodyPost_ret (results_none rfl _ _ _) rfl ⟨rfl, _, hs3, HF.out⟩
end Go.Proofs.YtonajgipkpnpoaaGreatDoor.SortS
namespace Go.Proofs.YtonajgipkpnpoaaGreatDoor.SortS
open Go.RowKit Go.Sort Go.Sst
variable {α : Type} [Inhabited α] {lt : α → α → Bool} {rv : Value} {St : Array α → World → Prop}
structure Split (lt : α → α → Bool) (d : Array α) (a s m e b mid : Nat) : Prop where
  st : StabIn lt a b d (rotA d s m e)
  o1 : SortedIn lt a s (rotA d s m e)
  o2 : SortedIn lt s mid (rotA d s m e)
  o3 : SortedIn lt mid e (rotA d s m e)
  o4 : SortedIn lt e b (rotA d s m e)
  cr : ∀ p q, a ≤ p → p < mid → mid ≤ q → q < b → lt (rotA d s m e)[q]! (rotA d s m e)[p]! = false
theorem Split.of (hO : SWO lt) {d : Array α} {a s m b mid s0 r0 : Nat} (hmid : mid = (a + b) / 2) (hb : b ≤ d.size) (_ham : a < m) (hmb : m < b)
    (hs0 : s0 = if mid < m then mid + m - b else a) (hr0 : r0 = if mid < m then mid else m) (h1 : s0 ≤ s) (h2 : s ≤ r0)
    (sA : SortedIn lt a m d) (sB : SortedIn lt m b d) (hC : Cut lt d s0 r0 (mid + m - 1) s s) : Split lt d a s m (mid + m - s) b mid := by
  have f1 : a ≤ s0 ∧ mid + m - b ≤ s0 := by
    rw [hs0]; split
    · omega
    · omega
  have f2 : r0 ≤ mid ∧ r0 ≤ m ∧ (r0 = mid ∨ r0 = m) := by
    rw [hr0]; split
    · omega
    · omega
  have f3 : s0 = a ∨ s0 = mid + m - b := by
    rw [hs0]; split
    · omega
    · omega
  have h := rot_split hO d a s m (mid + m - s) b (by omega) (by omega) (by omega) (by omega) hb sA sB
    (fun c1 c2 => by
      have := hC.hi s (by omega) (by omega)
      rwa [show mid + m - s - 1 = mid + m - 1 - s by omega])
    (fun c1 c2 => by
      have := hC.lo (s - 1) (by omega) (by omega)
      rwa [show mid + m - 1 - (s - 1) = mid + m - s by omega] at this)
  rw [show s + (mid + m - s - m) = mid by omega] at h
  exact ⟨h.1, h.2.1, h.2.2.1, h.2.2.2.1, h.2.2.2.2.1, h.2.2.2.2.2⟩
structure Lft (lt : α → α → Bool) (d : Array α) (a s m e b mid : Nat) (d2 : Array α) : Prop where
  size : d2.size = d.size
  st : StabIn lt a mid (rotA d s m e) d2
  so : SortedIn lt a mid d2
  o3 : SortedIn lt mid e d2
  o4 : SortedIn lt e b d2
theorem Lft.called {d d2 : Array α} {a s m e b mid : Nat} (h : Split lt d a s m e b mid) (hme : mid ≤ e) (st : StabIn lt a mid (rotA d s m e) d2) (so : SortedIn lt a mid d2) : Lft lt d a s m e b mid d2 :=
  ⟨by rw [st.size]; simp, st, so, sorted_congr h.o3 fun p hp _ => st.out p (Or.inr hp), sorted_congr h.o4 fun p hp _ => st.out p (Or.inr (by omega))⟩
theorem Lft.none {d : Array α} {a s m e b mid : Nat} (h : Split lt d a s m e b mid) (has : a ≤ s) (hsm : s ≤ mid) (c : ¬ (a < s ∧ s < mid)) : Lft lt d a s m e b mid (rotA d s m e) :=
  ⟨by simp, StabIn.refl _ _ _, by
    by_cases k : a = s
    · subst k; exact h.o2
    · have : s = mid := by omega
      subst this; exact h.o1, h.o3, h.o4⟩
theorem Lft.fin (hO : SWO lt) {d d2 d3 : Array α} {a s m e b mid : Nat} (h : Split lt d a s m e b mid) (h1 : a ≤ mid) (h2 : mid ≤ b) (k : Lft lt d a s m e b mid d2) (st : StabIn lt mid b d2 d3) (so : SortedIn lt mid b d3) : StabIn lt a b d d3 ∧ SortedIn lt a b d3 :=
  halves hO d (rotA d s m e) d2 d3 a mid b h1 h2 h.st h.cr k.st k.so st so
theorem Lft.fin' (hO : SWO lt) {d d2 : Array α} {a s m e b mid : Nat} (h : Split lt d a s m e b mid) (h1 : a ≤ mid) (h2 : mid ≤ e) (h3 : e ≤ b) (k : Lft lt d a s m e b mid d2) (c : ¬ (mid < e ∧ e < b)) : StabIn lt a b d d2 ∧ SortedIn lt a b d2 :=
  k.fin hO h h1 (by omega) (StabIn.refl _ _ _) (by
    by_cases q : mid = e
    · subst q; exact k.o4
    · have : e = b := by omega
      subst this; exact k.o3)
def RecIH (St : Array α → World → Prop) (lt : α → α → Bool) (rv : Value) (k : Nat) : Prop :=
  ∀ (d : Array α) (w : World) (a m b : Nat), b - a ≤ k → St d w → a < m → m < b → b ≤ d.size → d.size < 4611686018427387904 → SortedIn lt a m d → SortedIn lt m b d →
    Calls Tryz.prog 124 #[.iface 125 rv, .int .i64 a, .int .i64 m, .int .i64 b] w fun e w' => e = .returned (.tuple #[]) ∧ Merged lt St a b d w'
set_option maxHeartbeats 1600000 in
set_option maxRecDepth 100000 in
theorem rec_big (H : Srt lt rv St) (hO : SWO lt) (k : Nat) (ih : RecIH St lt rv k) (d : Array α) (w : World) (a m b : Nat) (hk : b - a ≤ k + 1) (hS : St d w) (ham : a + 1 < m) (hmb : m + 1 < b) (hb : b ≤ d.size) (hsz : d.size < 4611686018427387904)
    (sA : SortedIn lt a m d) (sB : SortedIn lt m b d) (hbig : (a + b) / 2 < m) :
    Calls Tryz.prog 124 #[.iface 125 rv, .int .i64 a, .int .i64 m, .int .i64 b] w fun e w' => e = .returned (.tuple #[]) ∧ Merged lt St a b d w' := by
  have mL := H.mL
  have mS := H.mS
  have HA := Lib.hid sA
  have HB := Lib.hid sB
  have HO := Lib.hid hO
  have HIH := Lib.hid ih
  clear sA sB hO ih
  have hc0 : ((m : Int) - a == 1) = false := by rw [beq_eq_false_iff_ne]; omega
  have hc1 : ((b : Int) - m == 1) = false := by rw [beq_eq_false_iff_ne]; omega
  have hc2 : decide (((a : Int) + b) / 2 < m) = true := by exact decide_eq_true (by omega)
  go_enter Tryz.func124, Tryz.ntmps124
  go_wp2
  go_loopw [18, 19] (fun vs vr wr => ∃ (s r : Nat), vs = .int .i64 s ∧ vr = .int .i64 r ∧ (a + b) / 2 + m - b ≤ s ∧ s ≤ r ∧ r ≤ (a + b) / 2 ∧ St d wr ∧ Hid (Cut lt d ((a + b) / 2 + m - b) ((a + b) / 2) ((a + b) / 2 + m - 1) s r)) (fun vs vr _ => (intOf vr).toNat - (intOf vs).toNat)
  case atStart => exact ⟨(a + b) / 2 + m - b, (a + b) / 2, by first | rfl | (congr 1; omega), by first | rfl | (congr 1; omega), Nat.le_refl _, by omega, Nat.le_refl _, hS, ⟨fun c h1 h2 => by omega, fun c h1 h2 => by omega⟩⟩
  case round =>
    obtain ⟨s, r, rfl, rfl, h0s, hsr, hr0, hs, hC⟩ := hrel
    by_cases hlt : s < r
    · have hl := H.less d wr ((a + b) / 2 + m - 1 - (s + r) / 2) ((s + r) / 2) hs (by omega) (by omega)
      have e1 : (((s + r) / 2 : Nat) : Int) = ((s : Int) + r) / 2 := by omega
      have e2 : (((a + b) / 2 + m - 1 - (s + r) / 2 : Nat) : Int) = ((a : Int) + b) / 2 + m - 1 - ((s : Int) + r) / 2 := by omega
      rw [e1, e2] at hl
      have E1 := Lib.hid e1
      clear e1 e2
      cases hlv : lt d[(a + b) / 2 + m - 1 - (s + r) / 2]! d[(s + r) / 2]! with
      | false =>
        have HC' := Lib.hid (Cut.down HO.out hC.out HA.out HB.out (by omega) (by omega) (by omega) (by omega) hlv (by omega) (by omega) hr0)
        rw [hlv] at hl
        clear hlv
        go_wp2_with (go_at_call 187; refine hl.mono ?_; rintro e w' ⟨rfl, hs2⟩)
        go_roundw
        case rel => exact ⟨(s + r) / 2 + 1, r, by rw [← E1.out]; go_num, rfl, by omega, by omega, hr0, hs2, HC'⟩
        case measure => simp [intOf]; omega
      | true =>
        have HC' := Lib.hid (Cut.up HO.out hC.out HA.out HB.out (by omega) (by omega) (by omega) (by omega) hlv (by omega) (by omega))
        rw [hlv] at hl
        clear hlv
        go_wp2_with (go_at_call 187; refine hl.mono ?_; rintro e w' ⟨rfl, hs2⟩)
        go_roundw
        case rel => exact ⟨s, (s + r) / 2, rfl, by rw [E1.out], h0s, by omega, by omega, hs2, HC'⟩
        case measure => simp [intOf]; omega
    · obtain rfl : s = r := by omega
      have SP := Lib.hid (Split.of HO.out (mid := (a + b) / 2) rfl hb (by omega) (by omega) (s0 := (a + b) / 2 + m - b) (r0 := (a + b) / 2) (by rw [if_pos hbig]) (by rw [if_pos hbig]) h0s hr0 HA.out HB.out hC.out)
      have ee : (((a + b) / 2 + m - s : Nat) : Int) = ((a : Int) + b) / 2 + m - s := by omega
      have em : (((a + b) / 2 : Nat) : Int) = ((a : Int) + b) / 2 := by omega
      have hsm : s ≤ (a + b) / 2 := by omega
      have has : a ≤ s := by omega
      have heb : (a + b) / 2 + m - s ≤ b := by omega
      have hme : (a + b) / 2 ≤ (a + b) / 2 + m - s := by omega
      have hrot := fun (c1 : s < m) (c2 : m < (a + b) / 2 + m - s) => rotate_any H d wr s m ((a + b) / 2 + m - s) hs c1 c2 (by omega) hsz
      simp only [ee] at hrot
      have hLc := fun w1 h1 (c1 : a < s) (c2 : s < (a + b) / 2) => HIH.out (rotA d s m ((a + b) / 2 + m - s)) w1 a s ((a + b) / 2) (by omega) h1 c1 c2 (by simp; omega) (by simpa using hsz) SP.out.o1 SP.out.o2
      simp only [em] at hLc
      have hRc := fun d2 w2 (h2 : St d2 w2) (k2 : Lft lt d a s m ((a + b) / 2 + m - s) b ((a + b) / 2) d2) (c1 : (a + b) / 2 < (a + b) / 2 + m - s) (c2 : (a + b) / 2 + m - s < b) => HIH.out d2 w2 ((a + b) / 2) ((a + b) / 2 + m - s) b (by omega) h2 c1 c2 (by rw [k2.size]; exact hb) (by rw [k2.size]; exact hsz) k2.o3 k2.o4
      simp only [em, ee] at hRc
      have HROT := Lib.hid hrot
      have HLC := Lib.hid hLc
      have HRC := Lib.hid hRc
      clear hrot hLc hRc ee em
      by_cases c1 : s < m
      · by_cases c2 : s < (a + b) / 2
        · by_cases c3 : a < s
          · by_cases c4 : (a + b) / 2 + m - s < b
            · try (exfalso; omega)
              all_goals
                go_wp2_with fail
                refine (HROT.out (by omega) (by omega)).mono ?_
                rintro e1 w1 ⟨rfl, hs1⟩
                go_wp2_with fail
                refine (HLC.out _ hs1 (by omega) (by omega)).mono ?_
                rintro e2 w2 ⟨rfl, hM2⟩
                obtain ⟨d2, hs2, st2, so2⟩ := hM2
                have K2 := Lib.hid (Lft.called SP.out hme st2 so2)
                clear st2 so2
                go_wp2_with fail
                refine (HRC.out _ _ hs2 K2.out (by omega) (by omega)).mono ?_
                rintro e3 w3 ⟨rfl, hM3⟩
                obtain ⟨d3, hs3, st3, so3⟩ := hM3
                have K3 := Lib.hid (Lft.fin HO.out SP.out (by omega) (by omega) K2.out st3 so3)
                clear st3 so3
                go_wp2_with fail
                go_end0
                exact ⟨rfl, _, hs3, K3.out⟩
            · try (exfalso; omega)
              all_goals
                go_wp2_with fail
                refine (HROT.out (by omega) (by omega)).mono ?_
                rintro e1 w1 ⟨rfl, hs1⟩
                go_wp2_with fail
                refine (HLC.out _ hs1 (by omega) (by omega)).mono ?_
                rintro e2 w2 ⟨rfl, hM2⟩
                obtain ⟨d2, hs2, st2, so2⟩ := hM2
                have K2 := Lib.hid (Lft.called SP.out hme st2 so2)
                clear st2 so2
                have hs3 := hs2
                have K3 := Lib.hid (Lft.fin' HO.out SP.out (by omega) hme heb K2.out (by omega))
                go_wp2_with fail
                go_end0
                exact ⟨rfl, _, hs3, K3.out⟩
          · by_cases c4 : (a + b) / 2 + m - s < b
            · try (exfalso; omega)
              all_goals
                go_wp2_with fail
                refine (HROT.out (by omega) (by omega)).mono ?_
                rintro e1 w1 ⟨rfl, hs1⟩
                have hs2 := hs1
                have K2 := Lib.hid (Lft.none SP.out has hsm (by omega))
                go_wp2_with fail
                refine (HRC.out _ _ hs2 K2.out (by omega) (by omega)).mono ?_
                rintro e3 w3 ⟨rfl, hM3⟩
                obtain ⟨d3, hs3, st3, so3⟩ := hM3
                have K3 := Lib.hid (Lft.fin HO.out SP.out (by omega) (by omega) K2.out st3 so3)
                clear st3 so3
                go_wp2_with fail
                go_end0
                exact ⟨rfl, _, hs3, K3.out⟩
            · try (exfalso; omega)
              all_goals
                go_wp2_with fail
                refine (HROT.out (by omega) (by omega)).mono ?_
                rintro e1 w1 ⟨rfl, hs1⟩
                have hs2 := hs1
                have K2 := Lib.hid (Lft.none SP.out has hsm (by omega))
                have hs3 := hs2
                have K3 := Lib.hid (Lft.fin' HO.out SP.out (by omega) hme heb K2.out (by omega))
                go_wp2_with fail
                go_end0
                exact ⟨rfl, _, hs3, K3.out⟩
        · by_cases c4 : (a + b) / 2 + m - s < b
          · try (exfalso; omega)
            all_goals
              have hs1 : St (rotA d s m ((a + b) / 2 + m - s)) wr := by rw [show (a + b) / 2 + m - s = m by omega, rotA_id_right]; exact hs
              have hs2 := hs1
              have K2 := Lib.hid (Lft.none SP.out has hsm (by omega))
              go_wp2_with fail
              refine (HRC.out _ _ hs2 K2.out (by omega) (by omega)).mono ?_
              rintro e3 w3 ⟨rfl, hM3⟩
              obtain ⟨d3, hs3, st3, so3⟩ := hM3
              have K3 := Lib.hid (Lft.fin HO.out SP.out (by omega) (by omega) K2.out st3 so3)
              clear st3 so3
              go_wp2_with fail
              go_end0
              exact ⟨rfl, _, hs3, K3.out⟩
          · try (exfalso; omega)
            all_goals
              have hs1 : St (rotA d s m ((a + b) / 2 + m - s)) wr := by rw [show (a + b) / 2 + m - s = m by omega, rotA_id_right]; exact hs
              have hs2 := hs1
              have K2 := Lib.hid (Lft.none SP.out has hsm (by omega))
              have hs3 := hs2
              have K3 := Lib.hid (Lft.fin' HO.out SP.out (by omega) hme heb K2.out (by omega))
              go_wp2_with fail
              go_end0
              exact ⟨rfl, _, hs3, K3.out⟩
      · by_cases c2 : s < (a + b) / 2
        · by_cases c3 : a < s
          · try (exfalso; omega)
            all_goals
              have hs1 : St (rotA d s m ((a + b) / 2 + m - s)) wr := by rw [show s = m by omega, rotA_id_left]; exact hs
              go_wp2_with fail
              refine (HLC.out _ hs1 (by omega) (by omega)).mono ?_
              rintro e2 w2 ⟨rfl, hM2⟩
              obtain ⟨d2, hs2, st2, so2⟩ := hM2
              have K2 := Lib.hid (Lft.called SP.out hme st2 so2)
              clear st2 so2
              have hs3 := hs2
              have K3 := Lib.hid (Lft.fin' HO.out SP.out (by omega) hme heb K2.out (by omega))
              go_wp2_with fail
              go_end0
              exact ⟨rfl, _, hs3, K3.out⟩
          · try (exfalso; omega)
            all_goals
              have hs1 : St (rotA d s m ((a + b) / 2 + m - s)) wr := by rw [show s = m by omega, rotA_id_left]; exact hs
              have hs2 := hs1
              have K2 := Lib.hid (Lft.none SP.out has hsm (by omega))
              have hs3 := hs2
              have K3 := Lib.hid (Lft.fin' HO.out SP.out (by omega) hme heb K2.out (by omega))
              go_wp2_with fail
              go_end0
              exact ⟨rfl, _, hs3, K3.out⟩
        · try (exfalso; omega)
          all_goals
            have hs1 : St (rotA d s m ((a + b) / 2 + m - s)) wr := by rw [show s = m by omega, rotA_id_left]; exact hs
            have hs2 := hs1
            have K2 := Lib.hid (Lft.none SP.out has hsm (by omega))
            have hs3 := hs2
            have K3 := Lib.hid (Lft.fin' HO.out SP.out (by omega) hme heb K2.out (by omega))
            go_wp2_with fail
            go_end0
            exact ⟨rfl, _, hs3, K3.out⟩
set_option maxHeartbeats 1600000 in
set_option maxRecDepth 100000 in
theorem rec_small (H : Srt lt rv St) (hO : SWO lt) (k : Nat) (ih : RecIH St lt rv k) (d : Array α) (w : World) (a m b : Nat) (hk : b - a ≤ k + 1) (hS : St d w) (ham : a + 1 < m) (hmb : m + 1 < b) (hb : b ≤ d.size) (hsz : d.size < 4611686018427387904)
    (sA : SortedIn lt a m d) (sB : SortedIn lt m b d) (hbig : ¬ (a + b) / 2 < m) :
    Calls Tryz.prog 124 #[.iface 125 rv, .int .i64 a, .int .i64 m, .int .i64 b] w fun e w' => e = .returned (.tuple #[]) ∧ Merged lt St a b d w' := by
  have mL := H.mL
  have mS := H.mS
  have HA := Lib.hid sA
  have HB := Lib.hid sB
  have HO := Lib.hid hO
  have HIH := Lib.hid ih
  clear sA sB hO ih
  have hc0 : ((m : Int) - a == 1) = false := by rw [beq_eq_false_iff_ne]; omega
  have hc1 : ((b : Int) - m == 1) = false := by rw [beq_eq_false_iff_ne]; omega
  have hc2 : decide (((a : Int) + b) / 2 < m) = false := by exact decide_eq_false (by omega)
  go_enter Tryz.func124, Tryz.ntmps124
  go_wp2
  go_loopw [18, 19] (fun vs vr wr => ∃ (s r : Nat), vs = .int .i64 s ∧ vr = .int .i64 r ∧ a ≤ s ∧ s ≤ r ∧ r ≤ m ∧ St d wr ∧ Hid (Cut lt d (a) (m) ((a + b) / 2 + m - 1) s r)) (fun vs vr _ => (intOf vr).toNat - (intOf vs).toNat)
  case atStart => exact ⟨a, m, by first | rfl | (congr 1; omega), by first | rfl | (congr 1; omega), Nat.le_refl _, by omega, Nat.le_refl _, hS, ⟨fun c h1 h2 => by omega, fun c h1 h2 => by omega⟩⟩
  case round =>
    obtain ⟨s, r, rfl, rfl, h0s, hsr, hr0, hs, hC⟩ := hrel
    by_cases hlt : s < r
    · have hl := H.less d wr ((a + b) / 2 + m - 1 - (s + r) / 2) ((s + r) / 2) hs (by omega) (by omega)
      have e1 : (((s + r) / 2 : Nat) : Int) = ((s : Int) + r) / 2 := by omega
      have e2 : (((a + b) / 2 + m - 1 - (s + r) / 2 : Nat) : Int) = ((a : Int) + b) / 2 + m - 1 - ((s : Int) + r) / 2 := by omega
      rw [e1, e2] at hl
      have E1 := Lib.hid e1
      clear e1 e2
      cases hlv : lt d[(a + b) / 2 + m - 1 - (s + r) / 2]! d[(s + r) / 2]! with
      | false =>
        have HC' := Lib.hid (Cut.down HO.out hC.out HA.out HB.out (by omega) (by omega) (by omega) (by omega) hlv (by omega) (by omega) hr0)
        rw [hlv] at hl
        clear hlv
        go_wp2_with (go_at_call 187; refine hl.mono ?_; rintro e w' ⟨rfl, hs2⟩)
        go_roundw
        case rel => exact ⟨(s + r) / 2 + 1, r, by rw [← E1.out]; go_num, rfl, by omega, by omega, hr0, hs2, HC'⟩
        case measure => simp [intOf]; omega
      | true =>
        have HC' := Lib.hid (Cut.up HO.out hC.out HA.out HB.out (by omega) (by omega) (by omega) (by omega) hlv (by omega) (by omega))
        rw [hlv] at hl
        clear hlv
        go_wp2_with (go_at_call 187; refine hl.mono ?_; rintro e w' ⟨rfl, hs2⟩)
        go_roundw
        case rel => exact ⟨s, (s + r) / 2, rfl, by rw [E1.out], h0s, by omega, by omega, hs2, HC'⟩
        case measure => simp [intOf]; omega
    · obtain rfl : s = r := by omega
      have SP := Lib.hid (Split.of HO.out (mid := (a + b) / 2) rfl hb (by omega) (by omega) (s0 := a) (r0 := m) (by rw [if_neg hbig]) (by rw [if_neg hbig]) h0s hr0 HA.out HB.out hC.out)
      have ee : (((a + b) / 2 + m - s : Nat) : Int) = ((a : Int) + b) / 2 + m - s := by omega
      have em : (((a + b) / 2 : Nat) : Int) = ((a : Int) + b) / 2 := by omega
      have hsm : s ≤ (a + b) / 2 := by omega
      have has : a ≤ s := by omega
      have heb : (a + b) / 2 + m - s ≤ b := by omega
      have hme : (a + b) / 2 ≤ (a + b) / 2 + m - s := by omega
      have hrot := fun (c1 : s < m) (c2 : m < (a + b) / 2 + m - s) => rotate_any H d wr s m ((a + b) / 2 + m - s) hs c1 c2 (by omega) hsz
      simp only [ee] at hrot
      have hLc := fun w1 h1 (c1 : a < s) (c2 : s < (a + b) / 2) => HIH.out (rotA d s m ((a + b) / 2 + m - s)) w1 a s ((a + b) / 2) (by omega) h1 c1 c2 (by simp; omega) (by simpa using hsz) SP.out.o1 SP.out.o2
      simp only [em] at hLc
      have hRc := fun d2 w2 (h2 : St d2 w2) (k2 : Lft lt d a s m ((a + b) / 2 + m - s) b ((a + b) / 2) d2) (c1 : (a + b) / 2 < (a + b) / 2 + m - s) (c2 : (a + b) / 2 + m - s < b) => HIH.out d2 w2 ((a + b) / 2) ((a + b) / 2 + m - s) b (by omega) h2 c1 c2 (by rw [k2.size]; exact hb) (by rw [k2.size]; exact hsz) k2.o3 k2.o4
      simp only [em, ee] at hRc
      have HROT := Lib.hid hrot
      have HLC := Lib.hid hLc
      have HRC := Lib.hid hRc
      clear hrot hLc hRc ee em
      by_cases c1 : s < m
      · by_cases c2 : s < (a + b) / 2
        · by_cases c3 : a < s
          · by_cases c4 : (a + b) / 2 + m - s < b
            · try (exfalso; omega)
              all_goals
                go_wp2_with fail
                refine (HROT.out (by omega) (by omega)).mono ?_
                rintro e1 w1 ⟨rfl, hs1⟩
                go_wp2_with fail
                refine (HLC.out _ hs1 (by omega) (by omega)).mono ?_
                rintro e2 w2 ⟨rfl, hM2⟩
                obtain ⟨d2, hs2, st2, so2⟩ := hM2
                have K2 := Lib.hid (Lft.called SP.out hme st2 so2)
                clear st2 so2
                go_wp2_with fail
                refine (HRC.out _ _ hs2 K2.out (by omega) (by omega)).mono ?_
                rintro e3 w3 ⟨rfl, hM3⟩
                obtain ⟨d3, hs3, st3, so3⟩ := hM3
                have K3 := Lib.hid (Lft.fin HO.out SP.out (by omega) (by omega) K2.out st3 so3)
                clear st3 so3
                go_wp2_with fail
                go_end0
                exact ⟨rfl, _, hs3, K3.out⟩
            · try (exfalso; omega)
              all_goals
                go_wp2_with fail
                refine (HROT.out (by omega) (by omega)).mono ?_
                rintro e1 w1 ⟨rfl, hs1⟩
                go_wp2_with fail
                refine (HLC.out _ hs1 (by omega) (by omega)).mono ?_
                rintro e2 w2 ⟨rfl, hM2⟩
                obtain ⟨d2, hs2, st2, so2⟩ := hM2
                have K2 := Lib.hid (Lft.called SP.out hme st2 so2)
                clear st2 so2
                have hs3 := hs2
                have K3 := Lib.hid (Lft.fin' HO.out SP.out (by omega) hme heb K2.out (by omega))
                go_wp2_with fail
                go_end0
                exact ⟨rfl, _, hs3, K3.out⟩
          · by_cases c4 : (a + b) / 2 + m - s < b
            · try (exfalso; omega)
              all_goals
                go_wp2_with fail
                refine (HROT.out (by omega) (by omega)).mono ?_
                rintro e1 w1 ⟨rfl, hs1⟩
                have hs2 := hs1
                have K2 := Lib.hid (Lft.none SP.out has hsm (by omega))
                go_wp2_with fail
                refine (HRC.out _ _ hs2 K2.out (by omega) (by omega)).mono ?_
                rintro e3 w3 ⟨rfl, hM3⟩
                obtain ⟨d3, hs3, st3, so3⟩ := hM3
                have K3 := Lib.hid (Lft.fin HO.out SP.out (by omega) (by omega) K2.out st3 so3)
                clear st3 so3
                go_wp2_with fail
                go_end0
                exact ⟨rfl, _, hs3, K3.out⟩
            · try (exfalso; omega)
              all_goals
                go_wp2_with fail
                refine (HROT.out (by omega) (by omega)).mono ?_
                rintro e1 w1 ⟨rfl, hs1⟩
                have hs2 := hs1
                have K2 := Lib.hid (Lft.none SP.out has hsm (by omega))
                have hs3 := hs2
                have K3 := Lib.hid (Lft.fin' HO.out SP.out (by omega) hme heb K2.out (by omega))
                go_wp2_with fail
                go_end0
                exact ⟨rfl, _, hs3, K3.out⟩
        · by_cases c4 : (a + b) / 2 + m - s < b
          · try (exfalso; omega)
            all_goals
              have hs1 : St (rotA d s m ((a + b) / 2 + m - s)) wr := by rw [show (a + b) / 2 + m - s = m by omega, rotA_id_right]; exact hs
              have hs2 := hs1
              have K2 := Lib.hid (Lft.none SP.out has hsm (by omega))
              go_wp2_with fail
              refine (HRC.out _ _ hs2 K2.out (by omega) (by omega)).mono ?_
              rintro e3 w3 ⟨rfl, hM3⟩
              obtain ⟨d3, hs3, st3, so3⟩ := hM3
              have K3 := Lib.hid (Lft.fin HO.out SP.out (by omega) (by omega) K2.out st3 so3)
              clear st3 so3
              go_wp2_with fail
              go_end0
              exact ⟨rfl, _, hs3, K3.out⟩
          · try (exfalso; omega)
            all_goals
              have hs1 : St (rotA d s m ((a + b) / 2 + m - s)) wr := by rw [show (a + b) / 2 + m - s = m by omega, rotA_id_right]; exact hs
              have hs2 := hs1
              have K2 := Lib.hid (Lft.none SP.out has hsm (by omega))
              have hs3 := hs2
              have K3 := Lib.hid (Lft.fin' HO.out SP.out (by omega) hme heb K2.out (by omega))
              go_wp2_with fail
              go_end0
              exact ⟨rfl, _, hs3, K3.out⟩
      · by_cases c2 : s < (a + b) / 2
        · by_cases c3 : a < s
          · try (exfalso; omega)
            all_goals
              have hs1 : St (rotA d s m ((a + b) / 2 + m - s)) wr := by rw [show s = m by omega, rotA_id_left]; exact hs
              go_wp2_with fail
              refine (HLC.out _ hs1 (by omega) (by omega)).mono ?_
              rintro e2 w2 ⟨rfl, hM2⟩
              obtain ⟨d2, hs2, st2, so2⟩ := hM2
              have K2 := Lib.hid (Lft.called SP.out hme st2 so2)
              clear st2 so2
              have hs3 := hs2
              have K3 := Lib.hid (Lft.fin' HO.out SP.out (by omega) hme heb K2.out (by omega))
              go_wp2_with fail
              go_end0
              exact ⟨rfl, _, hs3, K3.out⟩
          · try (exfalso; omega)
            all_goals
              have hs1 : St (rotA d s m ((a + b) / 2 + m - s)) wr := by rw [show s = m by omega, rotA_id_left]; exact hs
              have hs2 := hs1
              have K2 := Lib.hid (Lft.none SP.out has hsm (by omega))
              have hs3 := hs2
              have K3 := Lib.hid (Lft.fin' HO.out SP.out (by omega) hme heb K2.out (by omega))
              go_wp2_with fail
              go_end0
              exact ⟨rfl, _, hs3, K3.out⟩
        · try (exfalso; omega)
          all_goals
            have hs1 : St (rotA d s m ((a + b) / 2 + m - s)) wr := by rw [show s = m by omega, rotA_id_left]; exact hs
            have hs2 := hs1
            have K2 := Lib.hid (Lft.none SP.out has hsm (by omega))
            have hs3 := hs2
            have K3 := Lib.hid (Lft.fin' HO.out SP.out (by omega) hme heb K2.out (by omega))
            go_wp2_with fail
            go_end0
            exact ⟨rfl, _, hs3, K3.out⟩
theorem symMerge_any (H : Srt lt rv St) (hO : SWO lt) : ∀ k, RecIH St lt rv k
  | 0 => fun d w a m b hk hS h1 h2 => by omega
  | k + 1 => fun d w a m b hk hS h1 h2 hb hsz sA sB => by
    by_cases c1 : m = a + 1
    · subst c1
      have := symMerge_left H hO d w a b hS h2 hb hsz sB
      rwa [show (a : Int) + 1 = ((a + 1 : Nat) : Int) by omega] at this
    · by_cases c2 : b = m + 1
      · subst c2
        have := symMerge_right H hO d w a m hS (by omega) hb hsz sA
        rwa [show (m : Int) + 1 = ((m + 1 : Nat) : Int) by omega] at this
      · by_cases c3 : (a + b) / 2 < m
        · exact rec_big H hO k (symMerge_any H hO k) d w a m b hk hS (by omega) (by omega) hb hsz sA sB c3
        · exact rec_small H hO k (symMerge_any H hO k) d w a m b hk hS (by omega) (by omega) hb hsz sA sB c3
end Go.Proofs.YtonajgipkpnpoaaGreatDoor.SortS
