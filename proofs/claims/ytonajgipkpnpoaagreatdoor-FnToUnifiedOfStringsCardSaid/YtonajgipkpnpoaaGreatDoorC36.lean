/- spec.RuneSize, spec.WellFormed, isASCII, utf8.RuneLen, runesLen: what the printed functions answer. -/
import Derived.Test.YtonajgipkpnpoaaGreatDoorC33
import Derived.Test.YtonajgipkpnpoaaGreatDoorC12
import Derived.Test.YtonajgipkpnpoaaGreatDoorC35
import Derived.Laws.BitsLemmas
namespace Go.Proofs.YtonajgipkpnpoaaGreatDoor.Un
open Go.RowKit Go.Proofs.YtonajgipkpnpoaaGreatDoorW.PrintWords Go.Proofs.YtonajgipkpnpoaaGreatDoorW.PrintLast Go.Proofs.YtonajgipkpnpoaaGreatDoorW.PrintMore Go.Utx
open Go.Proofs.YtonajgipkpnpoaaGreatDoor.PWfN
set_option linter.unusedVariables false
set_option linter.unusedSimpArgs false
theorem w63 : ∀ n : Int, 0 ≤ n → n < 2 ^ 63 → IntKind.i64.wrap n = n := fun n h0 h1 => by
  rw [IntKind.wrap_i64]
  omega
theorem and31 (x : Int) (h0 : 0 ≤ x) (h1 : x < 256) : Go.bits .and .i64 x 31 = x % 32 := bits_mask .i64 63 (by decide) w63 5 (by decide) x h0 (by omega)
theorem and15 (x : Int) (h0 : 0 ≤ x) (h1 : x < 256) : Go.bits .and .i64 x 15 = x % 16 := bits_mask .i64 63 (by decide) w63 4 (by decide) x h0 (by omega)
theorem and7 (x : Int) (h0 : 0 ≤ x) (h1 : x < 256) : Go.bits .and .i64 x 7 = x % 8 := bits_mask .i64 63 (by decide) w63 3 (by decide) x h0 (by omega)
theorem and63 (x : Int) (h0 : 0 ≤ x) (h1 : x < 256) : Go.bits .and .i64 x 63 = x % 64 := bits_mask .i64 63 (by decide) w63 6 (by decide) x h0 (by omega)
theorem or64 (v b : Nat) (hv : v < 1048576) (hb : b < 64) : Go.bits .or .i64 ((v : Int) * 64) (b : Int) = (v : Int) * 64 + b := by
  have h := (bits_nat .i64 63 (by decide) w63 (v * 64) b (by omega) (by omega)).2
  have h2 : v * 64 ||| b = v * 64 + b := by
    have := Nat.two_pow_add_eq_or_of_lt (show b < 2 ^ 6 from hb) v
    rw [Nat.mul_comm v 64]
    exact this.symm
  rw [h2] at h
  rw [show ((v : Int) * 64) = ((v * 64 : Nat) : Int) by omega, h]
  omega
def bN (s : ByteArray) (i : Nat) : Nat := (s.data.toList.getD i 0).toNat
theorem bN_lt (s : ByteArray) (i : Nat) : bN s i < 256 := (s.data.toList.getD i 0).toNat_lt
theorem bt_bN (s : ByteArray) (i : Nat) (h : i < s.size) : bt s (i : Int) = (bN s i : Int) := by
  have h2 : i < s.data.toList.length := by rw [← Lib.size_eq]; exact h
  rw [Rd.bt_get s i h2]
  unfold bN
  rw [List.getD_eq_getElem?_getD, List.getElem?_eq_getElem h2]
  rfl
theorem dec_at (s : ByteArray) (i : Nat) : Lib.decodeL (s.data.toList.drop i) = Lib.decodeN (s.size - i) (bN s i) (bN s (i + 1)) (bN s (i + 2)) (bN s (i + 3)) := by
  rw [Lib.decodeL_drop, Lib.decode_N, Lib.size_eq]
  rfl
theorem l0_step (k : Nat) (s : ByteArray) (p v m i : Nat) (least : Int) (hi : i < m) (hp : p + i < s.size) (hs : s.size ≤ 1099511627776) (hv : v < 1048576) :
    spec_RuneSize.l0 (k + 1) s (p : Int) (v : Int) (m : Int) least (i : Int) = if 128 ≤ bN s (p + i) ∧ bN s (p + i) ≤ 191 then spec_RuneSize.l0 k s (p : Int) ((v * 64 + bN s (p + i) % 64 : Nat) : Int) (m : Int) least ((i + 1 : Nat) : Int) else some 0 := by
  have hb := bN_lt s (p + i)
  have e1 : wrap64 ((p : Int) + i) = ((p + i : Nat) : Int) := by rw [Rd.w64 (by omega) (by omega)]; omega
  have e2 : wrap64 ((i : Int) + 1) = ((i + 1 : Nat) : Int) := by rw [Rd.w64 (by omega) (by omega)]; omega
  have e3 : wrap64 ((v : Int) * 64) = (v : Int) * 64 := Rd.w64 (by omega) (by omega)
  rw [spec_RuneSize.l0, if_pos (by omega), e1, if_pos (by omega), if_pos (by omega), bt_bN s _ hp, Rd.w64 (by omega) (by omega), e2, e3]
  by_cases c1 : bN s (p + i) < 128
  · rw [if_pos (by omega), if_neg (by omega)]
  by_cases c2 : 191 < bN s (p + i)
  · rw [if_neg (by omega), if_pos (by omega), if_neg (by omega)]
  rw [if_neg (by omega), if_neg (by omega), if_pos (by omega), and63 _ (by omega) (by omega)]
  rw [show ((bN s (p + i) : Int) % 64) = ((bN s (p + i) % 64 : Nat) : Int) by omega, or64 _ _ hv (by omega)]
  congr 1
theorem l0_end (k : Nat) (s : ByteArray) (p v m i : Nat) (least : Int) (hi : ¬ i < m) :
    spec_RuneSize.l0 (k + 1) s (p : Int) (v : Int) (m : Int) least (i : Int) = if (v : Int) < least ∨ 1114111 < v ∨ (55296 ≤ v ∧ v < 57344) then some 0 else some (m : Int) := by
  rw [spec_RuneSize.l0, if_neg (by omega)]
  by_cases c1 : (v : Int) < least
  · rw [if_pos c1, if_pos (Or.inl c1)]
  by_cases c2 : 1114111 < v
  · rw [if_neg c1, if_pos (by omega), if_pos (by omega)]
  rw [if_neg c1, if_neg (by omega)]
  by_cases c3 : 55296 ≤ v
  · rw [if_pos (by omega)]
    by_cases c4 : v < 57344
    · rw [if_pos (by omega), if_pos (by omega)]
    · rw [if_neg (by omega), if_neg (by omega)]
  · rw [if_neg (by omega), if_neg (by omega)]
theorem rsz_of (s : ByteArray) (p : Nat) : rsz (s.data.toList.drop p) = if (Lib.decodeN (s.size - p) (bN s p) (bN s (p + 1)) (bN s (p + 2)) (bN s (p + 3))).1 = 65533 ∧ (Lib.decodeN (s.size - p) (bN s p) (bN s (p + 1)) (bN s (p + 2)) (bN s (p + 3))).2 = 1 then 0 else ((Lib.decodeN (s.size - p) (bN s p) (bN s (p + 1)) (bN s (p + 2)) (bN s (p + 3))).2 : Int) := by
  unfold rsz
  rw [dec_at]
theorem rs_one (n b0 b1 b2 b3 : Nat) (h : b0 < 128) : Lib.decodeN n b0 b1 b2 b3 = (b0, 1) := by
  unfold Lib.decodeN; rw [if_pos h]
theorem rs_two (n b0 b1 b2 b3 : Nat) (h1 : 194 ≤ b0) (h2 : b0 < 224) (k1 : b1 < 256) : Lib.decodeN n b0 b1 b2 b3 = if 1 < n ∧ 128 ≤ b1 ∧ b1 ≤ 191 then (b0 % 32 * 64 + b1 % 64, 2) else (65533, 1) := by
  unfold Lib.decodeN
  rw [if_neg (by omega)]
  by_cases c : 1 < n ∧ 128 ≤ b1 ∧ b1 ≤ 191
  · rw [if_pos c, if_pos (by omega), if_pos (by omega)]
  · rw [if_neg c, if_neg (by omega), if_neg (by omega), if_neg (by omega)]
theorem rs_three (n b0 b1 b2 b3 : Nat) (h1 : 224 ≤ b0) (h2 : b0 < 240) (k1 : b1 < 256) (k2 : b2 < 256) : Lib.decodeN n b0 b1 b2 b3 = if 2 < n ∧ (128 ≤ b1 ∧ b1 ≤ 191) ∧ (128 ≤ b2 ∧ b2 ≤ 191) ∧ ¬ (b0 % 16 * 4096 + b1 % 64 * 64 + b2 % 64 < 2048 ∨ (55296 ≤ b0 % 16 * 4096 + b1 % 64 * 64 + b2 % 64 ∧ b0 % 16 * 4096 + b1 % 64 * 64 + b2 % 64 < 57344)) then (b0 % 16 * 4096 + b1 % 64 * 64 + b2 % 64, 3) else (65533, 1) := by
  unfold Lib.decodeN
  rw [if_neg (by omega), if_neg (by omega)]
  by_cases c : 2 < n ∧ (128 ≤ b1 ∧ b1 ≤ 191) ∧ (128 ≤ b2 ∧ b2 ≤ 191)
  · rw [if_pos (by omega)]
    by_cases d : b0 % 16 * 4096 + b1 % 64 * 64 + b2 % 64 < 2048 ∨ (55296 ≤ b0 % 16 * 4096 + b1 % 64 * 64 + b2 % 64 ∧ b0 % 16 * 4096 + b1 % 64 * 64 + b2 % 64 < 57344)
    · rw [if_neg (by omega), if_neg (by omega)]
    · rw [if_pos (by omega), if_pos ⟨c.1, c.2.1, c.2.2, d⟩]
  · rw [if_neg (by omega), if_neg (by omega), if_neg (fun h => c ⟨h.1, h.2.1, h.2.2.1⟩)]
theorem rs_four (n b0 b1 b2 b3 : Nat) (h1 : 240 ≤ b0) (h2 : b0 < 245) (k1 : b1 < 256) (k2 : b2 < 256) (k3 : b3 < 256) : Lib.decodeN n b0 b1 b2 b3 = if 3 < n ∧ (128 ≤ b1 ∧ b1 ≤ 191) ∧ (128 ≤ b2 ∧ b2 ≤ 191) ∧ (128 ≤ b3 ∧ b3 ≤ 191) ∧ ¬ (b0 % 8 * 262144 + b1 % 64 * 4096 + b2 % 64 * 64 + b3 % 64 < 65536 ∨ 1114111 < b0 % 8 * 262144 + b1 % 64 * 4096 + b2 % 64 * 64 + b3 % 64) then (b0 % 8 * 262144 + b1 % 64 * 4096 + b2 % 64 * 64 + b3 % 64, 4) else (65533, 1) := by
  unfold Lib.decodeN
  rw [if_neg (by omega), if_neg (by omega), if_neg (by omega)]
  by_cases c : 3 < n ∧ (128 ≤ b1 ∧ b1 ≤ 191) ∧ (128 ≤ b2 ∧ b2 ≤ 191) ∧ (128 ≤ b3 ∧ b3 ≤ 191)
  · rw [if_pos (by omega)]
    by_cases d : b0 % 8 * 262144 + b1 % 64 * 4096 + b2 % 64 * 64 + b3 % 64 < 65536 ∨ 1114111 < b0 % 8 * 262144 + b1 % 64 * 4096 + b2 % 64 * 64 + b3 % 64
    · rw [if_neg (by omega), if_neg (by omega)]
    · rw [if_pos (by omega), if_pos ⟨c.1, c.2.1, c.2.2.1, c.2.2.2, d⟩]
  · rw [if_neg (by omega), if_neg (fun h => c ⟨h.1, h.2.1, h.2.2.1, h.2.2.2.1⟩)]
theorem runeSize_ok (s : ByteArray) (p : Nat) (hp : p < s.size) (hs : s.size ≤ 1099511627776) (k : Nat) : spec_RuneSize.f (k + 12) s (p : Int) = some (rsz (s.data.toList.drop p)) := by
  have k0 := bN_lt s p
  have k1 := bN_lt s (p + 1)
  have k2 := bN_lt s (p + 2)
  have k3 := bN_lt s (p + 3)
  obtain ⟨D, hD⟩ : ∃ D, D = Lib.decodeN (s.size - p) (bN s p) (bN s (p + 1)) (bN s (p + 2)) (bN s (p + 3)) := ⟨_, rfl⟩
  have bad : D = (65533, 1) → (some 0 : Option Int) = some (if D.1 = 65533 ∧ D.2 = 1 then 0 else (D.2 : Int)) := fun e => by rw [e, if_pos ⟨rfl, rfl⟩]
  have good : ∀ {c : Nat} (w : Nat), D = (c, w) → (w ≠ 1 ∨ c ≠ 65533) → some (w : Int) = some (if D.1 = 65533 ∧ D.2 = 1 then 0 else (D.2 : Int)) := fun {c} w e h => by
    rw [e, if_neg (by intro k; have := k.1; have := k.2; dsimp only at *; omega)]
  rw [rsz_of, ← hD, spec_RuneSize.f, if_neg (by omega), spec_RuneSize.j0, if_neg (by simp; omega), if_pos (by omega), if_pos (by omega), bt_bN s p hp, Rd.w64 (by omega) (by omega)]
  by_cases a0 : bN s p < 128
  · rw [rs_one _ _ _ _ _ a0] at hD
    rw [if_pos (by omega)]
    exact good 1 hD (by omega)
  rw [if_neg (by omega)]
  by_cases a1 : bN s p < 194
  · rw [Lib.decodeN_bad _ _ _ _ _ (Or.inl ⟨by omega, a1⟩)] at hD
    rw [if_neg (by omega), spec_RuneSize.j1, if_neg (by decide), if_neg (by omega), spec_RuneSize.j2, if_neg (by decide), if_neg (by omega)]
    exact bad hD
  rw [if_pos (by omega), spec_RuneSize.j1]
  by_cases a2 : bN s p < 224
  · rw [if_pos (by simp; omega), and31 _ (by omega) (by omega), spec_RuneSize.j3, show ((bN s p : Int) % 32) = ((bN s p % 32 : Nat) : Int) by omega, Rd.w64 (by omega) (by omega)]
    rw [rs_two _ _ _ _ _ (by omega) a2 k1] at hD
    by_cases a3 : 1 < s.size - p
    · rw [if_neg (by omega)]
      have := l0_step (k + 8) s p (bN s p % 32) 2 1 128 (by omega) (by omega) hs (by omega)
      rw [show (((1 : Nat) : Int)) = 1 from rfl, show (((2 : Nat) : Int)) = 2 from rfl] at this
      rw [this]
      by_cases a4 : 128 ≤ bN s (p + 1) ∧ bN s (p + 1) ≤ 191
      · have := l0_end (k + 7) s p (bN s p % 32 * 64 + bN s (p + 1) % 64) 2 2 128 (by omega)
        rw [show (((2 : Nat) : Int)) = 2 from rfl] at this
        rw [if_pos a4, this, if_neg (by omega)]
        exact good 2 (hD.trans (if_pos ⟨a3, a4⟩)) (by omega)
      · rw [if_neg a4]; exact bad (hD.trans (if_neg (fun h => a4 h.2)))
    · rw [if_pos (by omega)]; exact bad (hD.trans (if_neg (fun h => a3 h.1)))
  rw [if_neg (by simp; omega), if_pos (by omega), spec_RuneSize.j2]
  by_cases b2 : bN s p < 240
  · rw [if_pos (by simp; omega), and15 _ (by omega) (by omega), spec_RuneSize.j3, show ((bN s p : Int) % 16) = ((bN s p % 16 : Nat) : Int) by omega, Rd.w64 (by omega) (by omega)]
    rw [rs_three _ _ _ _ _ (by omega) b2 k1 k2] at hD
    by_cases a3 : 2 < s.size - p
    · rw [if_neg (by omega)]
      have s1 := l0_step (k + 7) s p (bN s p % 16) 3 1 2048 (by omega) (by omega) hs (by omega)
      rw [show (((1 : Nat) : Int)) = 1 from rfl, show (((3 : Nat) : Int)) = 3 from rfl] at s1
      rw [s1]
      by_cases a4 : 128 ≤ bN s (p + 1) ∧ bN s (p + 1) ≤ 191
      · have s2 := l0_step (k + 6) s p (bN s p % 16 * 64 + bN s (p + 1) % 64) 3 2 2048 (by omega) (by omega) hs (by omega)
        rw [show (((3 : Nat) : Int)) = 3 from rfl] at s2
        rw [if_pos a4, s2]
        by_cases a5 : 128 ≤ bN s (p + 2) ∧ bN s (p + 2) ≤ 191
        · have s3 := l0_end (k + 5) s p ((bN s p % 16 * 64 + bN s (p + 1) % 64) * 64 + bN s (p + 2) % 64) 3 3 2048 (by omega)
          rw [show (((3 : Nat) : Int)) = 3 from rfl] at s3
          rw [if_pos a5, s3]
          by_cases a6 : bN s p % 16 * 4096 + bN s (p + 1) % 64 * 64 + bN s (p + 2) % 64 < 2048 ∨ (55296 ≤ bN s p % 16 * 4096 + bN s (p + 1) % 64 * 64 + bN s (p + 2) % 64 ∧ bN s p % 16 * 4096 + bN s (p + 1) % 64 * 64 + bN s (p + 2) % 64 < 57344)
          · rw [if_pos (by omega)]; exact bad (hD.trans (if_neg (fun h => h.2.2.2 a6)))
          · rw [if_neg (by omega)]
            exact good 3 (hD.trans (if_pos ⟨a3, a4, a5, a6⟩)) (by omega)
        · rw [if_neg a5]; exact bad (hD.trans (if_neg (fun h => a5 h.2.2.1)))
      · rw [if_neg a4]; exact bad (hD.trans (if_neg (fun h => a4 h.2.1)))
    · rw [if_pos (by omega)]; exact bad (hD.trans (if_neg (fun h => a3 h.1)))
  rw [if_neg (by simp; omega), if_pos (by omega)]
  by_cases c2 : bN s p < 245
  · rw [if_pos (by omega), and7 _ (by omega) (by omega), spec_RuneSize.j3, show ((bN s p : Int) % 8) = ((bN s p % 8 : Nat) : Int) by omega, Rd.w64 (by omega) (by omega)]
    rw [rs_four _ _ _ _ _ (by omega) c2 k1 k2 k3] at hD
    by_cases a3 : 3 < s.size - p
    · rw [if_neg (by omega)]
      have s1 := l0_step (k + 7) s p (bN s p % 8) 4 1 65536 (by omega) (by omega) hs (by omega)
      rw [show (((1 : Nat) : Int)) = 1 from rfl, show (((4 : Nat) : Int)) = 4 from rfl] at s1
      rw [s1]
      by_cases a4 : 128 ≤ bN s (p + 1) ∧ bN s (p + 1) ≤ 191
      · have s2 := l0_step (k + 6) s p (bN s p % 8 * 64 + bN s (p + 1) % 64) 4 2 65536 (by omega) (by omega) hs (by omega)
        rw [show (((4 : Nat) : Int)) = 4 from rfl] at s2
        rw [if_pos a4, s2]
        by_cases a5 : 128 ≤ bN s (p + 2) ∧ bN s (p + 2) ≤ 191
        · have s3 := l0_step (k + 5) s p ((bN s p % 8 * 64 + bN s (p + 1) % 64) * 64 + bN s (p + 2) % 64) 4 3 65536 (by omega) (by omega) hs (by omega)
          rw [show (((4 : Nat) : Int)) = 4 from rfl] at s3
          rw [if_pos a5, s3]
          by_cases a7 : 128 ≤ bN s (p + 3) ∧ bN s (p + 3) ≤ 191
          · have s4 := l0_end (k + 4) s p (((bN s p % 8 * 64 + bN s (p + 1) % 64) * 64 + bN s (p + 2) % 64) * 64 + bN s (p + 3) % 64) 4 4 65536 (by omega)
            rw [show (((4 : Nat) : Int)) = 4 from rfl] at s4
            rw [if_pos a7, s4]
            by_cases a6 : bN s p % 8 * 262144 + bN s (p + 1) % 64 * 4096 + bN s (p + 2) % 64 * 64 + bN s (p + 3) % 64 < 65536 ∨ 1114111 < bN s p % 8 * 262144 + bN s (p + 1) % 64 * 4096 + bN s (p + 2) % 64 * 64 + bN s (p + 3) % 64
            · rw [if_pos (by omega)]; exact bad (hD.trans (if_neg (fun h => h.2.2.2.2 a6)))
            · rw [if_neg (by omega)]
              exact good 4 (hD.trans (if_pos ⟨a3, a4, a5, a7, a6⟩)) (by omega)
          · rw [if_neg a7]; exact bad (hD.trans (if_neg (fun h => a7 h.2.2.2.1)))
        · rw [if_neg a5]; exact bad (hD.trans (if_neg (fun h => a5 h.2.2.1)))
      · rw [if_neg a4]; exact bad (hD.trans (if_neg (fun h => a4 h.2.1)))
    · rw [if_pos (by omega)]; exact bad (hD.trans (if_neg (fun h => a3 h.1)))
  · rw [Lib.decodeN_bad _ _ _ _ _ (Or.inr ⟨by omega, k0⟩)] at hD
    rw [if_neg (by omega)]
    exact bad hD
theorem wf_loop (s : ByteArray) (hs : s.size ≤ 1099511627776) : ∀ (n i k : Nat), s.size - i = n → n + 13 ≤ k → i ≤ s.size → spec_WellFormed.l0 k s (i : Int) = some (Lib.validD (s.data.toList.drop i))
  | n, i, k + 1, hn, hk, hi => by
    unfold spec_WellFormed.l0
    by_cases h : i < s.size
    · have hne : s.data.toList.drop i ≠ [] := fun h0 => by
        have h1 := congrArg List.length h0
        rw [List.length_drop, ← Lib.size_eq] at h1
        simp at h1
        omega
      have hw := Lib.decodeL_width (s.data.toList.drop i)
      have hl := Lib.decodeL_le _ hne
      rw [List.length_drop, ← Lib.size_eq] at hl
      obtain ⟨k', rfl⟩ : ∃ k', k = k' + 12 := ⟨k - 12, by omega⟩
      rw [if_pos (by omega), runeSize_ok s i h hs, Option.bind_some, Lib.validD_step _ hne]
      unfold rsz
      by_cases hb : (Lib.decodeL (s.data.toList.drop i)).1 = 65533 ∧ (Lib.decodeL (s.data.toList.drop i)).2 = 1
      · rw [if_pos hb, if_pos rfl, if_pos hb]
      · rw [if_neg hb, if_neg (by omega), if_neg hb, show wrap64 ((i : Int) + ((Lib.decodeL (s.data.toList.drop i)).2 : Int)) = ((i + (Lib.decodeL (s.data.toList.drop i)).2 : Nat) : Int) by rw [Rd.w64 (by omega) (by omega)]; omega]
        rw [wf_loop s hs (s.size - (i + (Lib.decodeL (s.data.toList.drop i)).2)) _ _ rfl (by omega) (by omega), List.drop_drop]
    · rw [if_neg (by omega), List.drop_eq_nil_of_le (by rw [← Lib.size_eq]; omega)]
      rfl
termination_by n => n
decreasing_by omega
theorem wellFormed_any (s : ByteArray) (hs : s.size ≤ 1099511627776) (w : World) :
    Calls Tryz.prog 17 #[.string s] w fun e w' => e = .returned (.bool (Lib.validD s.data.toList)) ∧ Below w.heap.size w w' :=
  (spec_WellFormed.calls (s.size + 13) s _ w (wf_loop s hs s.size 0 _ (by omega) (Nat.le_refl _) (Nat.zero_le _))).mono fun e w' h => ⟨h.1, h.2.below⟩
def asc (l : List UInt8) : Bool := l.all fun b => decide (b.toNat < 128)
theorem ascii_loop (s : ByteArray) (hs : s.size ≤ 1099511627776) : ∀ (n i k : Nat), s.size - i = n → n < k → i ≤ s.size → xdiff_isASCII_string.l0 k s (i : Int) = some (asc (s.data.toList.drop i))
  | n, i, k + 1, hn, hk, hi => by
    unfold xdiff_isASCII_string.l0
    by_cases h : i < s.size
    · have h2 : i < s.data.toList.length := by rw [← Lib.size_eq]; exact h
      rw [if_pos (by omega), if_pos (by omega), Rd.bt_get s i h2, List.drop_eq_getElem_cons h2]
      by_cases hb : s.data.toList[i].toNat < 128
      · rw [if_neg (by omega), show wrap64 ((i : Int) + 1) = ((i + 1 : Nat) : Int) by rw [Rd.w64 (by omega) (by omega)]; omega, ascii_loop s hs (s.size - (i + 1)) (i + 1) k rfl (by omega) (by omega)]
        unfold asc
        rw [List.all_cons, decide_eq_true hb, Bool.true_and]
      · rw [if_pos (by omega)]
        unfold asc
        rw [List.all_cons, decide_eq_false hb, Bool.false_and]
    · rw [if_neg (by omega), List.drop_eq_nil_of_le (by rw [← Lib.size_eq]; omega)]
      rfl
termination_by n => n
decreasing_by omega
theorem isASCII_any (s : ByteArray) (hs : s.size ≤ 1099511627776) (w : World) :
    Calls Tryz.prog 36 #[.string s] w fun e w' => e = .returned (.bool (asc s.data.toList)) ∧ Below w.heap.size w w' :=
  (xdiff_isASCII_string.calls (s.size + 1) s _ w (ascii_loop s hs s.size 0 _ (by omega) (Nat.lt_succ_self _) (Nat.zero_le _))).mono fun e w' h => ⟨h.1, h.2.below⟩
theorem runeLen_ok (r : Nat) (h : okR r) (k : Nat) : utf8_RuneLen.f (k + 1) (r : Int) = some ((enc r).length : Int) := by
  obtain ⟨E, hE⟩ : ∃ E : Int, E = ((enc r).length : Int) := ⟨_, rfl⟩
  rw [← hE]
  rw [enc_len h] at hE
  unfold okR at h
  unfold Lib.runeLen at hE
  rw [if_neg (by omega)] at hE
  unfold utf8_RuneLen.f
  rw [if_neg (by omega)]
  by_cases h1 : r < 128
  · rw [if_pos (by omega)] at hE
    rw [if_pos (by omega), hE]
  rw [if_neg (by omega)] at hE
  rw [if_neg (by omega)]
  by_cases h2 : r < 2048
  · rw [if_pos (by omega)] at hE
    rw [if_pos (by omega), hE]
  rw [if_neg (by omega), if_neg (by omega)] at hE
  rw [if_neg (by omega)]
  by_cases h3 : 55296 ≤ (r : Int)
  · rw [if_pos h3, utf8_RuneLen.j0, if_neg (by simp; omega)]
    by_cases h4 : r ≤ 65535
    · rw [if_pos (by omega)] at hE
      rw [if_pos (by omega), hE]
    · rw [if_neg (by omega), if_pos (by omega)] at hE
      rw [if_neg (by omega), if_pos (by omega), hE]
  · rw [if_pos (by omega)] at hE
    rw [if_neg h3, utf8_RuneLen.j0, if_neg (by decide), if_pos (by omega), hE]
theorem runesLen_loop (ns : List Nat) (hs : ns.length ≤ 1000000000) (hok : ∀ r ∈ ns, okR r) : ∀ (n i k : Nat), ns.length - i = n → n + 1 < k → i ≤ ns.length →
    xdiff_runesLen.l0 k (((ns.take i).map enc).flatten.length : Int) (ns.map fun r : Nat => (r : Int)) (ns.length : Int) (i : Int) = some ((ns.map enc).flatten.length : Int)
  | n, i, k + 1, hn, hk, hi => by
    unfold xdiff_runesLen.l0
    by_cases h : i < ns.length
    · obtain ⟨k', rfl⟩ : ∃ k', k = k' + 1 := ⟨k - 1, by omega⟩
      have hrd : rd (ns.map fun r : Nat => (r : Int)) (i : Int) = ((ns[i] : Nat) : Int) := by
        unfold rd
        rw [Int.toNat_natCast]
        simp [List.getD_eq_getElem?_getD, h]
      have h4 : ∀ ms : List Nat, ((ms.map enc).flatten).length ≤ 4 * ms.length := fun ms => by
        induction ms with
        | nil => simp
        | cons a t ih =>
          have := enc_len4 a
          simp only [List.map_cons, List.flatten_cons, List.length_append, List.length_cons]
          omega
      have h5 := h4 (ns.take i)
      rw [List.length_take] at h5
      have h6 := enc_len4 ns[i]
      rw [if_pos (by omega), if_pos (by omega), if_pos (by rw [List.length_map]; omega), hrd, runeLen_ok _ (hok _ (List.getElem_mem h)), Option.bind_some]
      rw [show wrap64 ((((ns.take i).map enc).flatten.length : Int) + ((enc ns[i]).length : Int)) = (((ns.take (i + 1)).map enc).flatten.length : Int) by
        rw [Rd.w64 (by omega) (by omega), List.take_succ_eq_append_getElem h, List.map_append, List.flatten_append, List.length_append]
        simp]
      rw [show wrap64 ((i : Int) + 1) = ((i + 1 : Nat) : Int) by rw [Rd.w64 (by omega) (by omega)]; omega]
      exact runesLen_loop ns hs hok (ns.length - (i + 1)) (i + 1) (k' + 1) rfl (by omega) (by omega)
    · rw [if_neg (by omega), List.take_of_length_le (by omega)]
termination_by n => n
decreasing_by omega
theorem runesLen_any (ns : List Nat) (hs : ns.length ≤ 1000000000) (hok : ∀ r ∈ ns, okR r) (A : Option Addr) (c : Nat) (w : World) (hr : Kd.C (Kd.int .i32) w A ns.length (ns.map fun r : Nat => (r : Int))) (hc : ns.length ≤ c) :
    Calls Tryz.prog 53 #[.slice A ns.length c] w fun e w' => e = .returned (.int .i64 ((ns.map enc).flatten.length : Int)) ∧ Below w.heap.size w w' := by
  have hl : (ns.map fun r : Nat => (r : Int)).length = ns.length := List.length_map ..
  have := xdiff_runesLen.calls (ns.length + 2) A c (ns.map fun r : Nat => (r : Int)) ((ns.map enc).flatten.length : Int) w (by rw [hl]; exact hr) (by rw [hl]; exact hc) (by
    unfold xdiff_runesLen.f
    rw [hl]
    exact runesLen_loop ns hs hok ns.length 0 _ (by omega) (by omega) (Nat.zero_le _))
  rw [hl] at this
  exact this.mono fun e w' h => ⟨h.1, h.2.below⟩
end Go.Proofs.YtonajgipkpnpoaaGreatDoor.Un
