/- sort's own functions over an interface value, stated over whatever two methods Less and Swap do. -/
import Derived.Test.YtonajgipkpnpoaaProg
import Derived.Test.YtonajgipkpnpoaaStab
import Derived.WalkKit
import Derived.KernelRfl
import Derived.Outline
import Derived.Deep.LoopGhost
import Derived.Lib.Hide
import Derived.Shelf.GgSortFunc.RowK
namespace Go.Proofs.Ytonajgipkpnpoaa.SortS
open Go.RowKit Go.Sort Go.Sst


structure Srt {α : Type} [Inhabited α] (lt : α → α → Bool) (rv : Value) (St : Array α → World → Prop) : Prop where
  less : ∀ (d : Array α) (w : World) (i j : Nat), St d w → i < d.size → j < d.size → Calls Try.prog 65 #[rv, .int .i64 i, .int .i64 j] w fun e w' => e = .returned (.bool (lt d[i]! d[j]!)) ∧ St d w'
  swap : ∀ (d : Array α) (w : World) (i j : Nat), St d w → i < d.size → j < d.size → Calls Try.prog 66 #[rv, .int .i64 i, .int .i64 j] w fun e w' => e = .returned (.tuple #[]) ∧ St (swp d i j) w'
  len : ∀ (d : Array α) (w : World), St d w → Calls Try.prog 64 #[rv] w fun e w' => e = .returned (.int .i64 d.size) ∧ St d w'
  mN : ∀ w, Sem.run Try.prog (method 220 61 rv "Len") w = .ok (64, rv) w
  mL : ∀ w, Sem.run Try.prog (method 220 61 rv "Less") w = .ok (65, rv) w
  mS : ∀ w, Sem.run Try.prog (method 220 61 rv "Swap") w = .ok (66, rv) w

variable {α : Type} [Inhabited α] {lt : α → α → Bool} {rv : Value} {St : Array α → World → Prop}

set_option maxRecDepth 100000 in
theorem swapRange_any (H : Srt lt rv St) (d : Array α) (w : World) (a b n : Nat) (hS : St d w) (hab : a + n ≤ b) (hbn : b + n ≤ d.size) (hsz : d.size < 4611686018427387904) :
    Calls Try.prog 47 #[.iface 61 rv, .int .i64 a, .int .i64 b, .int .i64 n] w fun e w' => e = .returned (.tuple #[]) ∧ St (swR d a b n) w' := by
  have mS := H.mS
  go_enter Try.func47, Try.ntmps47
  go_wp2
  go_loopw [8] (fun i wr => ∃ k : Nat, i = .int .i64 k ∧ k ≤ n ∧ St (swR d a b k) wr) (fun i _ => n - (intOf i).toNat)
  case atStart => exact ⟨0, rfl, by omega, by rw [swR_zero]; exact hS⟩
  case round =>
    obtain ⟨k, rfl, hk, hs⟩ := hrel
    by_cases hlt : k < n
    · have hsw := H.swap _ _ (a + k) (b + k) hs (by simp; omega) (by simp; omega)
      rw [swR_succ d a b k (by omega) (by omega) (by omega)] at hsw
      have e1 : (((a + k : Nat)) : Int) = (a : Int) + k := by omega
      have e2 : (((b + k : Nat)) : Int) = (b : Int) + k := by omega
      rw [e1, e2] at hsw
      clear e1 e2
      go_wp2_with (go_at_call 66; refine hsw.mono ?_; rintro e w' ⟨rfl, hs'⟩)
      go_roundw
      case rel => exact ⟨k + 1, by go_num, by omega, hs'⟩
      case measure => simp [intOf]; omega
    · obtain rfl : k = n := by omega
      go_wp2
      go_end0
      exact ⟨rfl, hs⟩

set_option maxRecDepth 100000 in
theorem rotate_any (H : Srt lt rv St) (d : Array α) (w : World) (a m b : Nat) (hS : St d w) (ham : a < m) (hmb : m < b) (hb : b ≤ d.size) (hsz : d.size < 4611686018427387904) :
    Calls Try.prog 45 #[.iface 61 rv, .int .i64 a, .int .i64 m, .int .i64 b] w fun e w' => e = .returned (.tuple #[]) ∧ St (rotA d a m b) w' := by
  go_enter Try.func45, Try.ntmps45
  go_wp2
  go_loopw [8, 9] (fun vi vj wr => ∃ (i j : Nat) (dk : Array α), vi = .int .i64 i ∧ vj = .int .i64 j ∧ 0 < i ∧ 0 < j ∧ i ≤ m ∧ m + j ≤ d.size ∧ dk.size = d.size ∧ St dk wr ∧ Hid (rotA dk (m - i) m (m + j) = rotA d a m b)) (fun vi vj _ => (intOf vi).toNat + (intOf vj).toNat)
  case atStart => exact ⟨m - a, b - m, d, by congr 1; omega, by congr 1; omega, by omega, by omega, by omega, by omega, rfl, hS, by rw [show m - (m - a) = a by omega, show m + (b - m) = b by omega]; exact rfl⟩
  case round =>
    obtain ⟨i, j, dk, rfl, rfl, h0i, h0j, him, hjd, hds, hs, hR⟩ := hrel
    have emi : (((m - i : Nat)) : Int) = (m : Int) - i := by omega
    have HDS := Lib.hid hds
    by_cases hij : i = j
    · subst hij
      have hsr := swapRange_any H dk wr (m - i) m i hs (by omega) (by omega) (by omega)
      rw [emi, rot_eq dk m i him (by omega), hR.out] at hsr
      clear emi hds
      have hb0 : ((i : Int) != i) = false := by simp
      go_wp2_with (go_at_call 47; refine hsr.mono ?_; rintro e w' ⟨rfl, hs'⟩)
      go_end0
      exact ⟨rfl, hs'⟩
    · have hb0 : ((i : Int) != j) = true := by rw [bne_iff_ne]; omega
      by_cases hlt : j < i
      · have hsr := swapRange_any H dk wr (m - i) m j hs (by omega) (by omega) (by omega)
        rw [emi] at hsr
        have hR' : Hid (rotA (swR dk (m - i) m j) (m - (i - j)) m (m + j) = rotA d a m b) := by
          show _ = _; rw [rot_gt dk m i j him (by omega) hlt]; exact hR
        clear emi hds
        go_wp2_with (go_at_call 47; refine hsr.mono ?_; rintro e w' ⟨rfl, hs'⟩)
        go_roundw
        case rel => exact ⟨i - j, j, _, by congr 1; omega, rfl, by omega, by omega, by omega, by omega, by rw [size_swR]; exact HDS.out, hs', hR'⟩
        case measure => simp [intOf]; omega
      · have hsr := swapRange_any H dk wr (m - i) (m + j - i) i hs (by omega) (by omega) (by omega)
        have emj : (((m + j - i : Nat)) : Int) = (m : Int) + j - i := by omega
        rw [emi, emj] at hsr
        have hR' : Hid (rotA (swR dk (m - i) (m + j - i) i) (m - i) m (m + (j - i)) = rotA d a m b) := by
          show _ = _; rw [rot_lt dk m i j him (by omega) (by omega)]; exact hR
        clear emi emj hds
        go_wp2_with (go_at_call 47; refine hsr.mono ?_; rintro e w' ⟨rfl, hs'⟩)
        go_roundw
        case rel => exact ⟨i, j - i, _, rfl, by congr 1; omega, by omega, by omega, by omega, by omega, by rw [size_swR]; exact HDS.out, hs', hR'⟩
        case measure => simp [intOf]; omega

set_option maxRecDepth 100000 in
theorem insertionSort_any (H : Srt lt rv St) (d : Array α) (w : World) (a b : Nat) (hS : St d w) (hab : a ≤ b) (hb : b ≤ d.size) (hsz : d.size < 4611686018427387904) :
    Calls Try.prog 37 #[.iface 61 rv, .int .i64 a, .int .i64 b] w fun e w' => e = .returned (.tuple #[]) ∧ St (Sort.insertionSort lt d a b) w' := by
  have mL := H.mL
  have mS := H.mS
  go_enter Try.func37, Try.ntmps37
  go_wp2
  go_loopw [6] (fun vi wr => ∃ (i : Nat) (dk : Array α), vi = .int .i64 i ∧ a < i ∧ i ≤ b + 1 ∧ dk.size = d.size ∧ St dk wr ∧ Hid (insOuter lt a b i dk = insOuter lt a b (a + 1) d)) (fun vi _ => b + 1 - (intOf vi).toNat)
  case atStart => exact ⟨a + 1, d, by go_num, by omega, by omega, rfl, hS, rfl⟩
  case round =>
    obtain ⟨i, dk, rfl, hai, hib, hsk, hs, hO⟩ := hrel
    have HSK := Lib.hid hsk
    clear hsk
    by_cases hlt : i < b
    · go_wp2
      go_loopw [7] (fun vj wr2 => ∃ (j : Nat) (dj : Array α), vj = .int .i64 j ∧ a ≤ j ∧ j ≤ i ∧ Hid (dj.size = d.size) ∧ St dj wr2 ∧ Hid (insInner lt a j dj = insInner lt a i dk)) (fun vj _ => (intOf vj).toNat)
      case atStart => exact ⟨i, dk, rfl, by omega, Nat.le_refl _, HSK, hs, rfl⟩
      case round =>
        obtain ⟨j, dj, rfl, haj, hji, HSJ, hs2, hI⟩ := hrel
        have out : ∀ w2, (j ≤ a ∨ lt dj[j]! dj[j - 1]! = false) → St dj w2 → ∃ (i' : Nat) (dk' : Array α), Value.int .i64 ((i : Int) + 1) = .int .i64 i' ∧ a < i' ∧ i' ≤ b + 1 ∧ dk'.size = d.size ∧ St dk' w2 ∧ Hid (insOuter lt a b i' dk' = insOuter lt a b (a + 1) d) := fun w2 hst hS2 =>
          ⟨i + 1, dj, by go_num, by omega, by omega, HSJ.out, hS2, by show _ = _; rw [← hO.out, insOuter_go _ _ _ _ _ hlt, ← hI.out, insInner_stop _ _ _ _ hst]⟩
        have OUT := Lib.hid out
        clear out
        have hsz2 : j < dj.size := by rw [HSJ.out]; omega
        by_cases hja : a < j
        · have hl := H.less dj wr j (j - 1) hs2 (by omega) (by omega)
          have ej : (((j - 1 : Nat) : Int)) = (j : Int) - 1 := by omega
          have hsw := fun w2 h2 => H.swap dj w2 j (j - 1) h2 (by omega) (by omega)
          rw [ej] at hl
          simp only [ej] at hsw
          clear ej
          cases hlv : lt dj[j]! dj[j - 1]! with
          | true =>
            rw [hlv] at hl
            have HLV := Lib.hid hlv
            clear hlv
            go_wp2_with (first | (go_at_call 65; refine hl.mono ?_; rintro e w' ⟨rfl, hs3⟩) | (go_at_call 66; refine (hsw _ (by assumption)).mono ?_; rintro e w' ⟨rfl, hs4⟩))
            go_roundw
            case rel => exact ⟨j - 1, _, by congr 1; omega, by omega, by omega, by show _ = _; rw [size_swp]; exact HSJ.out, hs4, by show _ = _; rw [← hI.out, insInner_go lt a j dj hja HLV.out]⟩
            case measure => simp [intOf]; omega
          | false =>
            rw [hlv] at hl
            have HLV := Lib.hid hlv
            clear hlv
            go_wp2_with (go_at_call 65; refine hl.mono ?_; rintro e w' ⟨rfl, hs3⟩)
            go_roundw
            case rel => exact OUT.out _ (Or.inr HLV.out) hs3
            case measure => simp [intOf]; omega
        · go_wp2
          go_roundw
          case rel => exact OUT.out _ (Or.inl (by omega)) hs2
          case measure => simp [intOf]; omega
    · go_wp2
      go_end0
      exact ⟨rfl, by unfold Sort.insertionSort; rw [← hO.out, insOuter_stop _ _ _ _ _ hlt]; exact hs⟩
end Go.Proofs.Ytonajgipkpnpoaa.SortS
