/- Code points of a text, and the pieces that they are. No program in sight. -/
import Derived.Lib.ValidLaws
import Derived.Lib.RuneBytes
import Derived.Laws.Cover4
import Derived.Laws.IdiomStrings
namespace Go.Utx
open Go.Lib
set_option linter.unusedVariables false
set_option linter.unusedSimpArgs false
def rsD : Nat → List UInt8 → List Nat
  | 0, _ => []
  | n + 1, l => if l = [] then [] else (decodeL l).1 :: rsD n (l.drop (decodeL l).2)
def runesL (l : List UInt8) : List Nat := rsD l.length l
def enc (r : Nat) : List UInt8 := encodeRune (r : Int)
def okR (r : Nat) : Prop := r < 55296 ∨ (57344 ≤ r ∧ r ≤ 1114111)
theorem rsD_len : ∀ (n : Nat) (l : List UInt8), (rsD n l).length ≤ n
  | 0, l => Nat.le_refl _
  | n + 1, l => by
    unfold rsD
    split
    · simp
    · have := rsD_len n (l.drop (decodeL l).2)
      simp; omega
theorem runesL_len (l : List UInt8) : (runesL l).length ≤ l.length := rsD_len _ _
theorem enc_ne (r : Nat) : enc r ≠ [] := by
  have := (encodeRuneZ_length (r : Int)).1
  intro h
  have h2 := congrArg List.length h
  simp [enc, encodeRune] at h2
  rw [h2] at this
  simp at this
theorem enc_len4 (r : Nat) : (enc r).length ≤ 4 := by
  have := (encodeRuneZ_length (r : Int)).2
  simpa [enc, encodeRune] using this
theorem rsD_flat : ∀ (n : Nat) (l : List UInt8), l.length ≤ n → validGoD n l = true → ((rsD n l).map enc).flatten = l
  | 0, l, h, _ => by
    have : l = [] := List.eq_nil_of_length_eq_zero (by omega)
    subst this; rfl
  | n + 1, l, h, hv => by
    unfold rsD
    unfold validGoD at hv
    by_cases hne : l = []
    · subst hne; rfl
    · rw [if_neg hne] at hv ⊢
      have hl : 0 < l.length := List.length_pos_iff.2 hne
      have hw := decodeL_width l
      by_cases hb : (decodeL l).1 = 65533 ∧ (decodeL l).2 = 1
      · rw [if_pos hb] at hv; cases hv
      · rw [if_neg hb] at hv
        have hi := rsD_flat n (l.drop (decodeL l).2) (by rw [List.length_drop]; omega) hv
        rw [List.map_cons, List.flatten_cons, hi]
        show encodeRune ((decodeL l).1 : Int) ++ _ = _
        rw [encode_decode l hne hb, List.take_append_drop]
theorem runesL_flat {l : List UInt8} (h : validD l = true) : ((runesL l).map enc).flatten = l := rsD_flat _ _ (Nat.le_refl _) h
theorem decodeL_okR (l : List UInt8) : okR (decodeL l).1 := by
  unfold okR
  rw [decodeL_N]
  have k0 := (l.getD 0 0).toNat_lt
  have k1 := (l.getD 1 0).toNat_lt
  have k2 := (l.getD 2 0).toNat_lt
  have k3 := (l.getD 3 0).toNat_lt
  rcases decodeN_shape l.length (l.getD 0 0).toNat (l.getD 1 0).toNat (l.getD 2 0).toNat (l.getD 3 0).toNat with ⟨c, e⟩ | ⟨c1, c2, c3, cv, e⟩ | ⟨c1, c2, c3, c4, cv, cs, e⟩ | ⟨c1, c2, c3, c4, c5, cv, cw, e⟩ | e
  all_goals (rw [e]; dsimp only; omega)
theorem rsD_ok : ∀ (n : Nat) (l : List UInt8), ∀ r ∈ rsD n l, okR r
  | 0, l, r, h => by simp [rsD] at h
  | n + 1, l, r, h => by
    unfold rsD at h
    split at h
    · simp at h
    · rcases List.mem_cons.1 h with rfl | h
      · exact decodeL_okR l
      · exact rsD_ok n _ r h
theorem runesL_ok (l : List UInt8) : ∀ r ∈ runesL l, okR r := rsD_ok _ _
theorem enc_len {r : Nat} (h : okR r) : ((enc r).length : Int) = runeLen (r : Int) := by
  unfold okR at h
  unfold enc encodeRune runeLen
  rw [List.length_map]
  by_cases h1 : r < 128
  · rw [encodeRuneZ_one (by omega) (by omega), if_neg (by omega), if_pos (by omega)]; rfl
  by_cases h2 : r < 2048
  · rw [encodeRuneZ_two (by omega) (by omega), if_neg (by omega), if_neg (by omega), if_pos (by omega)]; rfl
  by_cases h3 : r < 65536
  · rw [encodeRuneZ_three (by omega), if_neg (by omega), if_neg (by omega), if_neg (by omega), if_neg (by omega), if_pos (by omega)]; rfl
  · rw [encodeRuneZ_four (by omega) (by omega), if_neg (by omega), if_neg (by omega), if_neg (by omega), if_neg (by omega), if_neg (by omega), if_pos (by omega)]; rfl
theorem enc_model {r : Nat} (h : okR r) : (Utf8.encode (r : Int)).data.toList = enc r := by
  have hv : Utf8.valid (r : Int) = true := by
    unfold okR at h
    unfold Utf8.valid
    simp only [Bool.or_eq_true, Bool.and_eq_true, decide_eq_true_eq]
    omega
  have hb : ∀ n : Nat, ∀ z : Int, z = (n : Int) → UInt8.ofNat n = z.toNat.toUInt8 := fun n z e => by subst e; rfl
  unfold okR at h
  unfold Utf8.encode enc encodeRune
  simp only [hv, if_true, Int.toNat_natCast]
  by_cases h1 : r < 128
  · rw [encodeRuneZ_one (by omega) (by omega), if_pos (by omega)]
    simp only [List.map_cons, List.map_nil]
    rw [hb r _ rfl]
  by_cases h2 : r < 2048
  · rw [encodeRuneZ_two (by omega) (by omega), if_neg (by omega), if_pos (by omega)]
    simp only [List.map_cons, List.map_nil]
    rw [hb _ (192 + (r : Int) / 64) (by omega), hb _ (128 + (r : Int) % 64) (by omega)]
  by_cases h3 : r < 65536
  · rw [encodeRuneZ_three (by omega), if_neg (by omega), if_neg (by omega), if_pos (by omega)]
    simp only [List.map_cons, List.map_nil]
    rw [hb _ (224 + (r : Int) / 4096) (by omega), hb _ (128 + (r : Int) / 64 % 64) (by omega), hb _ (128 + (r : Int) % 64) (by omega)]
  · rw [encodeRuneZ_four (by omega) (by omega), if_neg (by omega), if_neg (by omega), if_neg (by omega)]
    simp only [List.map_cons, List.map_nil]
    rw [hb _ (240 + (r : Int) / 262144) (by omega), hb _ (128 + (r : Int) / 4096 % 64) (by omega), hb _ (128 + (r : Int) / 64 % 64) (by omega), hb _ (128 + (r : Int) % 64) (by omega)]
theorem runesBytes_of : ∀ (ns : List Nat), (∀ r ∈ ns, okR r) → ∀ s : ByteArray, ((ns.map fun r : Nat => (r : Int)).foldl (fun r n => r ++ Utf8.encode n) s).data.toList = s.data.toList ++ (ns.map enc).flatten
  | [], _, s => by simp
  | n :: t, h, s => by
    rw [List.map_cons, List.foldl_cons, runesBytes_of t (fun r hr => h r (List.mem_cons_of_mem _ hr)), ByteArray.data_append, Array.toList_append, enc_model (h n (List.mem_cons_self ..)), List.map_cons, List.flatten_cons, List.append_assoc]
theorem runesBytes_enc (ns : List Nat) (h : ∀ r ∈ ns, okR r) : runesBytes (ns.map fun r : Nat => (r : Int)) = ⟨(ns.map enc).flatten.toArray⟩ := by
  have := runesBytes_of ns h ByteArray.empty
  unfold runesBytes
  apply ByteArray.ext
  apply Array.ext'
  rw [this]
  rfl
theorem runesFrom_of (s : ByteArray) : ∀ (n i : Nat) (acc : Array Value), Conv.runesFrom s n i acc = acc ++ ((rsD n (s.data.toList.drop i)).map fun r : Nat => Value.int .i32 (r : Int)).toArray
  | 0, i, acc => by simp [Conv.runesFrom, rsD]
  | n + 1, i, acc => by
    unfold Conv.runesFrom rsD
    by_cases h : i < s.size
    · have hne : s.data.toList.drop i ≠ [] := fun h0 => by
        have h1 := congrArg List.length h0
        rw [List.length_drop] at h1
        have h2 : s.data.toList.length = s.size := (size_eq s).symm
        simp only [List.length_nil] at h1
        omega
      rw [if_pos h, if_neg hne]
      show Conv.runesFrom s n (i + (Utf8.decode s i).2) (acc.push (.int .i32 (Int.ofNat (Utf8.decode s i).1))) = _
      rw [runesFrom_of s n, decodeL_drop, List.drop_drop]
      simp
    · have hn : s.data.toList.drop i = [] := List.drop_eq_nil_of_le (by rw [← size_eq]; omega)
      rw [if_neg h, hn, if_pos rfl]
      simp
theorem runesFrom_all (s : ByteArray) : Conv.runesFrom s s.size 0 #[] = ((runesL s.data.toList).map fun r : Nat => Value.int .i32 (r : Int)).toArray := by
  rw [runesFrom_of, List.drop_zero]
  have : s.size = s.data.toList.length := size_eq s
  rw [this]
  simp [runesL]
theorem runesFrom_size (s : ByteArray) : (Conv.runesFrom s s.size 0 #[]).size = (runesL s.data.toList).length := by rw [runesFrom_all]; simp
def ones (l : List UInt8) : List (List UInt8) := l.map fun b => [b]
theorem ones_flat : ∀ l : List UInt8, (ones l).flatten = l
  | [] => rfl
  | b :: t => by
    have := ones_flat t
    unfold ones at *
    simp only [List.map_cons, List.flatten_cons, this]
    rfl
theorem ones_length (l : List UInt8) : (ones l).length = l.length := by simp [ones]
theorem ones_ne (l : List UInt8) : ∀ x ∈ ones l, x ≠ [] := by
  intro x hx
  unfold ones at hx
  obtain ⟨b, _, rfl⟩ := List.mem_map.1 hx
  simp
def rsz (l : List UInt8) : Int := if (decodeL l).1 = 65533 ∧ (decodeL l).2 = 1 then 0 else ((decodeL l).2 : Int)
end Go.Utx
