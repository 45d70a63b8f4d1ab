/- What the law's helpers compute. -/
import Derived.Test.YtonajgipkpnpoaaDoorPLw
import Derived.Test.YtonajgipkpnpoaaDoorTo
import Derived.Deep.QuietTactic
import Derived.BigQuiet
namespace Go.Proofs.YtonajgipkpnpoaaDoor.Un
open Go.RowKit Go.Sort Go.Sst Go.Proofs.YtonajgipkpnpoaaDoorW.PrintWords Go.Proofs.YtonajgipkpnpoaaDoorW.PrintLast Go.Proofs.YtonajgipkpnpoaaDoorW.PrintMore Go.Uni
open Go.Proofs.YtonajgipkpnpoaaDoor.QFnToUnifiedReads Go.Proofs.YtonajgipkpnpoaaDoor.SortM Go.Proofs.YtonajgipkpnpoaaDoor.SortU
set_option linter.unusedVariables false
set_option linter.unusedSimpArgs false

abbrev SE := S38

theorem rdE {l : List SE} {i : Nat} (h : i < l.length) : rd_T38 l (i : Int) = l[i] := by
  simp [rd_T38, List.getD, List.getElem?_eq_getElem h]

theorem up1 {i : Nat} (h : i ≤ 4398046511104) : wrap64 ((i : Int) + 1) = ((i + 1 : Nat) : Int) := by rw [Rd.w64 (by omega) (by omega)]; omega

theorem fits_loop (l : List SE) (hl : l.length ≤ 2147483647) : ∀ (n i k : Nat), l.length - i = n → i ≤ l.length → n < k → ∃ b, laws_zzFits1.l0 k l (l.length : Int) (i : Int) = some b
  | 0, i, k, hn, hi, hk => by
    obtain ⟨k, rfl⟩ : ∃ m, k = m + 1 := ⟨k - 1, by omega⟩
    exact ⟨true, by unfold laws_zzFits1.l0; rw [if_neg (by omega)]⟩
  | n + 1, i, k, hn, hi, hk => by
    obtain ⟨k, rfl⟩ : ∃ m, k = m + 1 := ⟨k - 1, by omega⟩
    obtain ⟨b, hb⟩ := fits_loop l hl n (i + 1) k (by omega) (by omega) (by omega)
    unfold laws_zzFits1.l0
    rw [if_pos (by omega), if_pos (by omega), if_pos (by omega), up1 (by omega)]
    unfold laws_zzFits2.f
    split
    · exact ⟨false, rfl⟩
    · exact ⟨b, by simpa using hb⟩

theorem fits_ev (l : List SE) : ∃ b, laws_zzFits1.f (l.length + 1) l = some b ∧ (b = true → l.length ≤ 2147483647) := by
  unfold laws_zzFits1.f
  by_cases h : (l.length : Int) > 2147483647
  · rw [if_pos h]; exact ⟨false, rfl, fun h => by cases h⟩
  · rw [if_neg h]
    obtain ⟨b, hb⟩ := fits_loop l (by omega) l.length 0 (l.length + 1) rfl (Nat.zero_le _) (by omega)
    exact ⟨b, hb, fun _ => by omega⟩

def szE (l : List SE) : Nat := (l.map fun e => e.f2.size + 1).sum

theorem size_loop (l : List SE) (hl : l.length ≤ 2147483647) : ∀ (n i k s : Nat), l.length - i = n → i ≤ l.length → n < k → s ≤ 1000000 → ∃ v : Int, spec_SizeOfEdits.l0 k (s : Int) l (l.length : Int) (i : Int) = some v ∧ 0 ≤ v ∧ v ≤ 1000001 ∧ (v ≤ 1000000 → v = ((s + szE (l.drop i) : Nat) : Int))
  | 0, i, k, s, hn, hi, hk, hs => by
    obtain ⟨k, rfl⟩ : ∃ m, k = m + 1 := ⟨k - 1, by omega⟩
    refine ⟨s, by unfold spec_SizeOfEdits.l0; rw [if_neg (by omega)], by omega, by omega, fun _ => ?_⟩
    rw [List.drop_eq_nil_of_le (by omega)]; simp [szE]
  | n + 1, i, k, s, hn, hi, hk, hs => by
    obtain ⟨k, rfl⟩ : ∃ m, k = m + 1 := ⟨k - 1, by omega⟩
    have hlt : i < l.length := by omega
    have hd : szE (l.drop i) = (l[i].f2.size + 1) + szE (l.drop (i + 1)) := by unfold szE; rw [List.drop_eq_getElem_cons hlt, List.map_cons, List.sum_cons]
    unfold spec_SizeOfEdits.l0
    rw [if_pos (by omega), if_pos (by omega), if_pos (by omega), rdE hlt, up1 (i := i) (by omega), Rd.w64 (i := 1000000 - (s : Int)) (by omega) (by omega)]
    by_cases h : (l[i].f2.size : Int) ≥ 1000000 - (s : Int)
    · rw [if_pos h]; exact ⟨1000001, rfl, by omega, by omega, fun h => by omega⟩
    · rw [if_neg h, Rd.w64 (i := (l[i].f2.size : Int) + 1) (by omega) (by omega), Rd.w64 (i := (s : Int) + ((l[i].f2.size : Int) + 1)) (by omega) (by omega)]
      obtain ⟨v, h1, h2, h3, h4⟩ := size_loop l hl n (i + 1) k (s + (l[i].f2.size + 1)) (by omega) (by omega) (by omega) (by omega)
      refine ⟨v, ?_, h2, h3, fun h5 => ?_⟩
      · rw [← h1]; congr 1
      · rw [h4 h5, hd]; congr 1; omega

theorem size_ev (l : List SE) (hl : l.length ≤ 2147483647) : ∃ v : Int, spec_SizeOfEdits.f (l.length + 1) l = some v ∧ 0 ≤ v ∧ v ≤ 1000001 ∧ (v ≤ 1000000 → v = (szE l : Int)) := by
  obtain ⟨v, h1, h2, h3, h4⟩ := size_loop l hl l.length 0 (l.length + 1) 0 rfl (Nat.zero_le _) (by omega) (by omega)
  exact ⟨v, h1, h2, h3, fun h => by have := h4 h; simpa using this⟩

theorem long_ev (a b c d : Int) (ha : 0 ≤ a ∧ a ≤ 2147483647) (hb : 0 ≤ b ∧ b ≤ 2147483647) (hc : 0 ≤ c ∧ c ≤ 2147483647) (hd : 0 ≤ d ∧ d ≤ 2147483647) : ∃ r, spec_TooLong.f 5 [a, b, c, d] = some r ∧ (r = false → a + b + c + d ≤ 1000000) := by
  have r0 : rd [a, b, c, d] 0 = a := rfl
  have r1 : rd [a, b, c, d] 1 = b := rfl
  have r2 : rd [a, b, c, d] 2 = c := rfl
  have r3 : rd [a, b, c, d] 3 = d := rfl
  have u0 : wrap64 ((0 : Int) + 1) = 1 := (Rd.w64 (by decide) (by decide)).trans rfl
  have u1 : wrap64 ((1 : Int) + 1) = 2 := (Rd.w64 (by decide) (by decide)).trans rfl
  have u2 : wrap64 ((2 : Int) + 1) = 3 := (Rd.w64 (by decide) (by decide)).trans rfl
  have u3 : wrap64 ((3 : Int) + 1) = 4 := (Rd.w64 (by decide) (by decide)).trans rfl
  have l4 : (([a, b, c, d] : List Int).length : Int) = 4 := rfl
  unfold spec_TooLong.f spec_TooLong.l0
  rw [l4, if_pos (by decide), if_pos (by decide), if_pos (by decide), r0, Rd.w64 (i := 1000000 - 0) (by decide) (by decide)]
  by_cases h0 : a > 1000000 - 0
  · rw [if_pos h0]; exact ⟨true, rfl, fun h => by cases h⟩
  rw [if_neg h0, Rd.w64 (i := 0 + a) (by omega) (by omega), u0]
  unfold spec_TooLong.l0
  rw [if_pos (by decide), if_pos (by decide), if_pos (by simp), r1, Rd.w64 (i := 1000000 - (0 + a)) (by omega) (by omega)]
  by_cases h1 : b > 1000000 - (0 + a)
  · rw [if_pos h1]; exact ⟨true, rfl, fun h => by cases h⟩
  rw [if_neg h1, Rd.w64 (i := 0 + a + b) (by omega) (by omega), u1]
  unfold spec_TooLong.l0
  rw [if_pos (by decide), if_pos (by decide), if_pos (by simp), r2, Rd.w64 (i := 1000000 - (0 + a + b)) (by omega) (by omega)]
  by_cases h2 : c > 1000000 - (0 + a + b)
  · rw [if_pos h2]; exact ⟨true, rfl, fun h => by cases h⟩
  rw [if_neg h2, Rd.w64 (i := 0 + a + b + c) (by omega) (by omega), u2]
  unfold spec_TooLong.l0
  rw [if_pos (by decide), if_pos (by decide), if_pos (by simp), r3, Rd.w64 (i := 1000000 - (0 + a + b + c)) (by omega) (by omega)]
  by_cases h3 : d > 1000000 - (0 + a + b + c)
  · rw [if_pos h3]; exact ⟨true, rfl, fun h => by cases h⟩
  rw [if_neg h3, u3]
  unfold spec_TooLong.l0
  rw [if_neg (by decide)]
  exact ⟨false, rfl, fun _ => by omega⟩

theorem label_loop (s : ByteArray) (hs : s.size ≤ 2147483647) : ∀ (n i k : Nat), s.size - i = n → i ≤ s.size → n < k → ∃ b, spec_Label.l0 k s (s.size : Int) (i : Int) = some b
  | 0, i, k, hn, hi, hk => by
    obtain ⟨k, rfl⟩ : ∃ m, k = m + 1 := ⟨k - 1, by omega⟩
    exact ⟨true, by unfold spec_Label.l0; rw [if_neg (by omega)]⟩
  | n + 1, i, k, hn, hi, hk => by
    obtain ⟨k, rfl⟩ : ∃ m, k = m + 1 := ⟨k - 1, by omega⟩
    obtain ⟨b, hb⟩ := label_loop s hs n (i + 1) k (by omega) (by omega) (by omega)
    unfold spec_Label.l0
    rw [if_pos (by omega), if_pos (by omega), if_pos (by omega), up1 (by omega)]
    split
    · exact ⟨false, rfl⟩
    · exact ⟨b, hb⟩

theorem label_ev (s : ByteArray) (hs : s.size ≤ 2147483647) : ∃ b, spec_Label.f (s.size + 1) s = some b := label_loop s hs s.size 0 (s.size + 1) rfl (Nat.zero_le _) (by omega)

theorem ctx_ev (n : Int) (_hn : -9223372036854775808 ≤ n ∧ n ≤ 9223372036854775807) : ∃ ctx : Nat, laws_context.f n = some (ctx : Int) ∧ 1 ≤ ctx ∧ ctx ≤ 8 := by
  unfold laws_context.f
  have h1 : -7 ≤ Int.tmod n 8 ∧ Int.tmod n 8 ≤ 7 := by
    have h2 := Int.tmod_lt_of_pos n (b := 8) (by decide)
    have h3 := Int.lt_tmod_of_pos n (b := 8) (by decide)
    omega
  rw [Rd.w64 (i := Int.tmod n 8 + 8) (by omega) (by omega)]
  have h4 : 0 ≤ Int.tmod (Int.tmod n 8 + 8) 8 ∧ Int.tmod (Int.tmod n 8 + 8) 8 ≤ 7 := by
    have h2 := Int.tmod_lt_of_pos (Int.tmod n 8 + 8) (b := 8) (by decide)
    have h3 := Int.tmod_nonneg 8 (a := Int.tmod n 8 + 8) (by omega)
    omega
  rw [Rd.w64 (by omega) (by omega)]
  exact ⟨(1 + Int.tmod (Int.tmod n 8 + 8) 8).toNat, by congr 1; omega, by omega, by omega⟩

theorem given_loop (l : List SE) (hl : l.length < 4398046511104) : ∀ (d i k : Nat) (acc : List S66), l.length - i = d → i ≤ l.length → d < k → acc.length = i → impl_given.l0 k acc l (l.length : Int) (i : Int) = some (acc ++ (l.drop i).map fun x => ⟨x.f0, x.f1, x.f2⟩)
  | 0, i, k, acc, hd, hi, hk, ha => by
    obtain ⟨k, rfl⟩ : ∃ m, k = m + 1 := ⟨k - 1, by omega⟩
    unfold impl_given.l0
    rw [if_neg (by omega), List.drop_eq_nil_of_le (by omega)]
    simp
  | d + 1, i, k, acc, hd, hi, hk, ha => by
    obtain ⟨k, rfl⟩ : ∃ m, k = m + 1 := ⟨k - 1, by omega⟩
    have hlt : i < l.length := by omega
    unfold impl_given.l0
    rw [if_pos (by omega), if_pos (by omega), if_pos (by omega), if_pos (by omega), rdE hlt, up1 (by omega)]
    rw [given_loop l hl d (i + 1) k _ (by omega) (by omega) (by omega) (by simp; omega), List.drop_eq_getElem_cons hlt, List.map_cons, List.append_assoc]
    rfl

theorem given_ev (l : List SE) (hl : l.length < 4398046511104) : impl_given.f (l.length + 1) l = some (l.map fun x => ⟨x.f0, x.f1, x.f2⟩) := by
  have := given_loop l hl l.length 0 (l.length + 1) [] (by omega) (by omega) (by omega) rfl
  simpa [impl_given.f] using this
end Go.Proofs.YtonajgipkpnpoaaDoor.Un
/- What the reference tells of edits, and what it makes of a text. -/
namespace Go.Proofs.YtonajgipkpnpoaaDoor.Un
open Go.RowKit Go.Sort Go.Sst Go.Proofs.YtonajgipkpnpoaaDoorW.PrintWords Go.Proofs.YtonajgipkpnpoaaDoorW.PrintLast Go.Proofs.YtonajgipkpnpoaaDoorW.PrintMore Go.Uni
open Go.Proofs.YtonajgipkpnpoaaDoor.QFnToUnifiedReads Go.Proofs.YtonajgipkpnpoaaDoor.SortM Go.Proofs.YtonajgipkpnpoaaDoor.SortU
set_option linter.unusedVariables false
set_option linter.unusedSimpArgs false

def Ov (a b : SE) : Prop := a.f0 < b.f1 ∧ b.f0 < a.f1
def Ins (e : SE) (n : Int) : Prop := 0 ≤ e.f0 ∧ e.f0 ≤ e.f1 ∧ e.f1 ≤ n

def ToldR (l : List SE) (n : Int) (i : Nat) : Prop := ∀ i', i ≤ i' → ∀ h : i' < l.length, Ins l[i'] n ∧ ∀ j, (hj : j < i') → ¬ Ov (l[j]'(by omega)) l[i']

theorem told_l1 (l : List SE) (n : Int) (M i : Nat) (hi : i < l.length) (hl : l.length ≤ 2147483647)
    (ih : ∀ x5 k, (l.length - (i + 1)) * M + 1 ≤ k → ∃ t, spec_ToldOf.l0 k l n x5 l (l.length : Int) ((i + 1 : Nat) : Int) = some t ∧ (t = 0 → x5 = 0 ∧ ToldR l n (i + 1))) :
    ∀ (d j : Nat) (x5 : Int) (k : Nat), i - j = d → j ≤ i → d + 1 + ((l.length - (i + 1)) * M + 1) ≤ k → ∃ t, spec_ToldOf.l1 k l n x5 l (l.length : Int) (i : Int) (l.take i) ((l.take i).length : Int) (j : Int) l[i].f0 l[i].f1 l[i].f2 = some t ∧
      (t = 0 → x5 = 0 ∧ (∀ j', j ≤ j' → (h : j' < i) → ¬ Ov (l[j']'(by omega)) l[i]) ∧ ToldR l n (i + 1))
  | 0, j, x5, k, hd, hj, hk => by
    obtain ⟨k, rfl⟩ : ∃ m, k = m + 1 := ⟨k - 1, by omega⟩
    have hlt : (l.take i).length = i := by rw [List.length_take]; omega
    obtain ⟨t, h1, h2⟩ := ih x5 k (by omega)
    refine ⟨t, ?_, fun h => ⟨(h2 h).1, fun j' h3 h4 => by omega, (h2 h).2⟩⟩
    unfold spec_ToldOf.l1
    rw [if_neg (by omega), up1 (by omega)]
    exact h1
  | d + 1, j, x5, k, hd, hj, hk => by
    obtain ⟨k, rfl⟩ : ∃ m, k = m + 1 := ⟨k - 1, by omega⟩
    have hlt : (l.take i).length = i := by rw [List.length_take]; omega
    have hji : j < i := by omega
    have hg : rd_T38 (l.take i) (j : Int) = l[j]'(by omega) := by rw [rdE (by omega), List.getElem_take]
    have step : ∀ x5', ∃ t, spec_ToldOf.l1 k l n x5' l (l.length : Int) (i : Int) (l.take i) ((l.take i).length : Int) ((j + 1 : Nat) : Int) l[i].f0 l[i].f1 l[i].f2 = some t ∧
      (t = 0 → x5' = 0 ∧ (∀ j', j + 1 ≤ j' → (h : j' < i) → ¬ Ov (l[j']'(by omega)) l[i]) ∧ ToldR l n (i + 1)) := fun x5' =>
      told_l1 l n M i hi hl ih d (j + 1) x5' k (by omega) (by omega) (by omega)
    have nov : ¬ Ov (l[j]'(by omega)) l[i] → ∀ {x5' t : Int}, x5' = x5 → (t = 0 → x5' = 0 ∧ (∀ j', j + 1 ≤ j' → (h : j' < i) → ¬ Ov (l[j']'(by omega)) l[i]) ∧ ToldR l n (i + 1)) → (t = 0 → x5 = 0 ∧ (∀ j', j ≤ j' → (h : j' < i) → ¬ Ov (l[j']'(by omega)) l[i]) ∧ ToldR l n (i + 1)) := by
      intro hno x5' t hx h ht
      obtain ⟨a, b, c⟩ := h ht
      refine ⟨hx ▸ a, fun j' h3 h4 => ?_, c⟩
      by_cases e : j' = j
      · subst e; exact hno
      · exact b j' (by omega) h4
    unfold spec_ToldOf.l1
    rw [if_pos (by omega), if_pos (by omega), if_pos (by omega), hg, up1 (i := j) (by omega)]
    unfold spec_Overlap.f
    by_cases h1 : (l[j]'(by omega)).f0 < l[i].f1
    · rw [if_pos h1]
      by_cases h2 : l[i].f0 < (l[j]'(by omega)).f1
      · rw [decide_eq_true h2]
        exact ⟨1, rfl, fun h => by omega⟩
      · rw [decide_eq_false h2]
        have hno : ¬ Ov (l[j]'(by omega)) l[i] := fun h => h2 h.2
        show ∃ t, (if false = true then some 1 else _) = some t ∧ _
        rw [if_neg (by decide)]
        by_cases h3 : (l[j]'(by omega)).f0 = l[i].f0
        · rw [if_pos h3]
          by_cases h4 : (l[j]'(by omega)).f1 > l[i].f1
          · rw [if_pos h4]
            obtain ⟨t, a, b⟩ := step 2
            exact ⟨t, a, fun h => absurd (b h).1 (by decide)⟩
          · rw [if_neg h4]
            obtain ⟨t, a, b⟩ := step x5
            exact ⟨t, a, nov hno rfl b⟩
        · rw [if_neg h3]
          obtain ⟨t, a, b⟩ := step x5
          exact ⟨t, a, nov hno rfl b⟩
    · rw [if_neg h1]
      have hno : ¬ Ov (l[j]'(by omega)) l[i] := fun h => h1 h.1
      show ∃ t, (if false = true then some 1 else _) = some t ∧ _
      rw [if_neg (by decide)]
      by_cases h3 : (l[j]'(by omega)).f0 = l[i].f0
      · rw [if_pos h3]
        by_cases h4 : (l[j]'(by omega)).f1 > l[i].f1
        · rw [if_pos h4]
          obtain ⟨t, a, b⟩ := step 2
          exact ⟨t, a, fun h => absurd (b h).1 (by decide)⟩
        · rw [if_neg h4]
          obtain ⟨t, a, b⟩ := step x5
          exact ⟨t, a, nov hno rfl b⟩
      · rw [if_neg h3]
        obtain ⟨t, a, b⟩ := step x5
        exact ⟨t, a, nov hno rfl b⟩

theorem told_l0 (l : List SE) (n : Int) (hl : l.length ≤ 2147483647) : ∀ (d i : Nat) (x5 : Int) (k : Nat), l.length - i = d → i ≤ l.length → d * (l.length + 3) + 1 ≤ k → ∃ t, spec_ToldOf.l0 k l n x5 l (l.length : Int) (i : Int) = some t ∧ (t = 0 → x5 = 0 ∧ ToldR l n i)
  | 0, i, x5, k, hd, hi, hk => by
    obtain ⟨k, rfl⟩ : ∃ m, k = m + 1 := ⟨k - 1, by omega⟩
    refine ⟨x5, ?_, fun h => ⟨h, fun i' h1 h2 => by omega⟩⟩
    unfold spec_ToldOf.l0
    rw [if_neg (by omega)]
  | d + 1, i, x5, k, hd, hi, hk => by
    obtain ⟨k, rfl⟩ : ∃ m, k = m + 1 := ⟨k - 1, by omega⟩
    have hlt : i < l.length := by omega
    rw [Nat.succ_mul] at hk
    have ih := fun x5 k (h : (l.length - (i + 1)) * (l.length + 3) + 1 ≤ k) => told_l0 l n hl d (i + 1) x5 k (by omega) (by omega) (by rw [show d = l.length - (i + 1) by omega]; exact h)
    obtain ⟨t, h1, h2⟩ := told_l1 l n (l.length + 3) i hlt hl ih i 0 x5 k rfl (Nat.zero_le _) (by rw [show l.length - (i + 1) = d by omega]; omega)
    unfold spec_ToldOf.l0
    rw [if_pos (by omega), if_pos (by omega), if_pos (by omega), rdE hlt]
    unfold spec_Inside.f
    have fin : Ins l[i] n → ∃ t, (if (i : Int) ≤ (l.length : Int) then ((some (l.take (i : Int).toNat : List SE)).bind fun y114 => (spec_ToldOf.l1 k l n x5 l (l.length : Int) (i : Int) y114 (y114.length : Int) 0 l[i].f0 l[i].f1 l[i].f2)) else none) = some t ∧ (t = 0 → x5 = 0 ∧ ToldR l n i) := fun hin => by
      rw [if_pos (by omega), Int.toNat_natCast]
      refine ⟨t, h1, fun h => ⟨(h2 h).1, fun i' h3 h4 => ?_⟩⟩
      by_cases e : i' = i
      · subst e; exact ⟨hin, fun j hj => (h2 h).2.1 j (Nat.zero_le _) hj⟩
      · exact (h2 h).2.2 i' (by omega) h4
    by_cases h3 : 0 ≤ l[i].f0
    · rw [if_pos h3]
      by_cases h4 : l[i].f0 ≤ l[i].f1
      · rw [if_pos h4]
        by_cases h5 : l[i].f1 ≤ n
        · rw [decide_eq_true h5]
          exact fin ⟨h3, h4, h5⟩
        · rw [decide_eq_false h5]
          exact ⟨1, rfl, fun h => by omega⟩
      · rw [if_neg h4]; exact ⟨1, rfl, fun h => by omega⟩
    · rw [if_neg h3]; exact ⟨1, rfl, fun h => by omega⟩

theorem told_ev (l : List SE) (n : Int) (hl : l.length ≤ 2147483647) (k : Nat) (hk : l.length * (l.length + 3) + 1 ≤ k) : ∃ t, spec_ToldOf.f k l n = some t ∧ (t = 0 → ToldR l n 0) := by
  obtain ⟨t, h1, h2⟩ := told_l0 l n hl l.length 0 0 k rfl (Nat.zero_le _) hk
  exact ⟨t, h1, fun h => (h2 h).2⟩

/-! ### sorted -/
theorem insE_perm (l : List E) (e : E) : (insE l e).Perm (e :: l) := by
  unfold insE
  refine (List.perm_middle).trans ?_
  rw [List.take_append_drop]

theorem foldl_perm : ∀ (l acc : List E), (l.foldl insE acc).Perm (acc ++ l)
  | [], acc => by simp
  | e :: l, acc => by
    rw [List.foldl_cons]
    refine (foldl_perm l (insE acc e)).trans ?_
    refine ((insE_perm acc e).append_right l).trans ?_
    rw [List.cons_append]
    exact List.perm_middle.symm

theorem sortE_perm (l : List E) : (sortE l).Perm l := by
  have := foldl_perm l []
  simpa [sortE] using this

def toB (x : SE) : BE := ⟨x.f0.toNat, x.f1.toNat, x.f2.data.toList⟩
def sB (y : BE) : SE := ⟨(y.s : Int), (y.e : Int), mkS y.new⟩
def unb (x : E) : BE := ⟨x.a.toNat, x.b.toNat, x.s.data.toList⟩

theorem sB_toB {x : SE} {n : Int} (h : Ins x n) : sB (toB x) = x := by
  obtain ⟨h1, h2, h3⟩ := h
  unfold sB toB
  rw [mkS_of]
  show (⟨((x.f0.toNat : Nat) : Int), ((x.f1.toNat : Nat) : Int), x.f2⟩ : SE) = x
  rw [show ((x.f0.toNat : Nat) : Int) = x.f0 by omega, show ((x.f1.toNat : Nat) : Int) = x.f1 by omega]

theorem bE_unb {x : E} (ha : 0 ≤ x.a) (hb : 0 ≤ x.b) : bE (unb x) = x := by
  unfold bE unb
  rw [mkS_of]
  show (⟨((x.a.toNat : Nat) : Int), ((x.b.toNat : Nat) : Int), x.s⟩ : E) = x
  rw [show ((x.a.toNat : Nat) : Int) = x.a by omega, show ((x.b.toNat : Nat) : Int) = x.b by omega]

theorem inO_of {n : Nat} : ∀ (ys : List BE) (p : Nat), ys.Pairwise (fun x y => x.e ≤ y.s) → (∀ y ∈ ys, y.s ≤ y.e ∧ y.e ≤ n) → (∀ y ∈ ys, p ≤ y.s) → p ≤ n → InO n ys p
  | [], p, _, _, _, h => h
  | y :: t, p, hp, hb, hs, h => by
    obtain ⟨h1, h2⟩ := List.pairwise_cons.1 hp
    have h3 := hb y (by simp)
    exact ⟨hs y (by simp), h3.1, h3.2, inO_of t y.e h2 (fun z hz => hb z (List.mem_cons_of_mem _ hz)) h1 h3.2⟩

theorem lt_bE (x y : BE) : lt (bE x) (bE y) = false ↔ ¬ (x.s < y.s ∨ (x.s = y.s ∧ x.e < y.e)) := by
  rw [lt_not]
  unfold bE
  constructor
  · intro h h2; apply h; show (x.s : Int) < (y.s : Int) ∨ (x.s : Int) = (y.s : Int) ∧ (x.e : Int) < (y.e : Int); omega
  · intro h h2; apply h
    have h3 : (x.s : Int) < (y.s : Int) ∨ (x.s : Int) = (y.s : Int) ∧ (x.e : Int) < (y.e : Int) := h2
    omega

/-- edits of which the reference says that they can be applied -/
theorem told_eds (c : ByteArray) (l : List SE) (hc : c.size ≤ 1000000) (hs : szE l ≤ 1000000) (ht : ToldR l (c.size : Int) 0) :
    ∃ es ys : List BE, l = es.map sB ∧ Eds c es ys := by
  have hins : ∀ x ∈ l, Ins x (c.size : Int) := fun x hx => by
    obtain ⟨i, hi, rfl⟩ := List.mem_iff_getElem.1 hx
    exact (ht i (Nat.zero_le _) hi).1
  have hl6 : l.length ≤ szE l ∧ tot (l.map toB) ≤ szE l := by
    clear ht hins hs
    induction l with
    | nil => exact ⟨Nat.le_refl _, Nat.le_refl _⟩
    | cons x t ih =>
      have e1 : szE (x :: t) = (x.f2.size + 1) + szE t := by simp [szE]
      have e2 : tot ((x :: t).map toB) = x.f2.data.toList.length + tot (t.map toB) := by simp [tot, toB]
      rw [e1, e2, List.length_cons, data_length]; omega
  have hes : l = (l.map toB).map sB := by
    rw [List.map_map]
    conv => lhs; rw [← List.map_id l]
    exact List.map_congr_left (fun x hx => (sB_toB (hins x hx)).symm)
  obtain ⟨es, hes2⟩ : ∃ es, es = l.map toB := ⟨_, rfl⟩
  rw [← hes2] at hes hl6
  have hesb : ∀ y ∈ es, y.s ≤ y.e ∧ y.e ≤ c.size := fun y hy => by
    have h1 : sB y ∈ l := by rw [hes]; exact List.mem_map.2 ⟨y, hy, rfl⟩
    obtain ⟨a, b, d⟩ := hins _ h1
    have b' : (y.s : Int) ≤ (y.e : Int) := b
    have d' : (y.e : Int) ≤ (c.size : Int) := d
    omega
  have hnov : es.Pairwise (fun x y => ¬ (x.s < y.e ∧ y.s < x.e) ∧ ¬ (y.s < x.e ∧ x.s < y.e)) := by
    rw [List.pairwise_iff_getElem]
    intro i j hi hj hij
    have hlen : l.length = es.length := by rw [hes, List.length_map]
    have h1 := (ht j (Nat.zero_le _) (by omega)).2 i hij
    have e1 : l[i]'(by omega) = sB es[i] := by simp only [hes, List.getElem_map]
    have e2 : l[j]'(by omega) = sB es[j] := by simp only [hes, List.getElem_map]
    rw [e1, e2] at h1
    have h2 : ¬ (es[i].s < es[j].e ∧ es[j].s < es[i].e) := by
      intro h
      apply h1
      exact ⟨by show (es[i].s : Int) < (es[j].e : Int); omega, by show (es[j].s : Int) < (es[i].e : Int); omega⟩
    exact ⟨h2, fun h => h2 ⟨h.2, h.1⟩⟩
  have hp := sortE_perm (es.map bE)
  have hmem : ∀ x ∈ sortE (es.map bE), ∃ y ∈ es, bE y = x := fun x hx => List.mem_map.1 (hp.mem_iff.1 hx)
  obtain ⟨ys, hys⟩ : ∃ ys, ys = (sortE (es.map bE)).map unb := ⟨_, rfl⟩
  have hyb : sortE (es.map bE) = ys.map bE := by
    rw [hys, List.map_map]
    conv => lhs; rw [← List.map_id (sortE (es.map bE))]
    refine List.map_congr_left (fun x hx => ?_)
    obtain ⟨y, _, rfl⟩ := hmem x hx
    exact (bE_unb (by show (0 : Int) ≤ (y.s : Int); omega) (by show (0 : Int) ≤ (y.e : Int); omega)).symm
  have hunb : ∀ y, unb (bE y) = y := fun y => by
    unfold unb bE
    simp only [mkS_toList, Int.toNat_natCast]
  have hperm : ys.Perm es := by
    rw [hys]
    have := hp.map unb
    rw [List.map_map] at this
    have e : es.map (unb ∘ bE) = es := by
      conv => rhs; rw [← List.map_id es]
      exact List.map_congr_left (fun y _ => hunb y)
    rwa [e] at this
  refine ⟨es, ys, hes, hc, hperm.length_eq, ?_, ?_, fun y hy => ?_, hyb, ?_⟩
  · have : l.length = es.length := by rw [hes, List.length_map]
    omega
  · have h1 : tot ys = tot es := by
      unfold tot
      exact (hperm.map fun e => e.new.length).sum_nat
    omega
  · have := hesb y hy; omega
  · rw [data_length]
    refine inO_of ys 0 ?_ (fun y hy => hesb y (hperm.mem_iff.1 hy)) (fun y _ => Nat.zero_le _) (Nat.zero_le _)
    have hsorted := (foldl_sorted (es.map bE) [] List.Pairwise.nil).1
    have hs2 : (ys.map bE).Pairwise (fun x y => lt y x = false) := by rw [← hyb]; exact hsorted
    rw [List.pairwise_map] at hs2
    have hn2 : ys.Pairwise (fun x y => ¬ (x.s < y.e ∧ y.s < x.e) ∧ ¬ (y.s < x.e ∧ x.s < y.e)) := (hperm.pairwise_iff (fun h => ⟨h.2, h.1⟩)).2 hnov
    refine (List.Pairwise.and hs2 hn2).imp_of_mem ?_
    intro x y hx hy ⟨h1, h2, h3⟩
    rw [lt_bE] at h1
    have bx := hesb x (hperm.mem_iff.1 hx)
    have by' := hesb y (hperm.mem_iff.1 hy)
    omega
end Go.Proofs.YtonajgipkpnpoaaDoor.Un
/- ApplyTo; impl.ToUnified. -/
namespace Go.Proofs.YtonajgipkpnpoaaDoor.Un
open Go.RowKit Go.Sort Go.Sst Go.Proofs.YtonajgipkpnpoaaDoorW.PrintWords Go.Proofs.YtonajgipkpnpoaaDoorW.PrintLast Go.Proofs.YtonajgipkpnpoaaDoorW.PrintMore Go.Uni
open Go.Proofs.YtonajgipkpnpoaaDoor.QFnToUnifiedReads Go.Proofs.YtonajgipkpnpoaaDoor.SortM Go.Proofs.YtonajgipkpnpoaaDoor.SortU
set_option linter.unusedVariables false
set_option linter.unusedSimpArgs false

theorem ext_size (c : ByteArray) (p q : Nat) : (c.extract p q).size ≤ c.size := by
  rw [← data_length, ext_toList, List.length_drop, List.length_take, data_length]; omega

theorem apply_loop (c : ByteArray) (hc : c.size ≤ 1000000) (ys : List BE) (hl : ys.length ≤ 1000000) : ∀ (d i k p : Nat) (out : Bs), ys.length - i = d → i ≤ ys.length → d < k → InO c.data.toList.length (ys.drop i) p → out.length + tot (ys.drop i) ≤ 10000000 + p →
    spec_ApplyTo.l0 k c 0 (mkS out) (p : Int) (ys.map sB) ((ys.map sB).length : Int) (i : Int) = some (mkS (out ++ app c.data.toList (ys.drop i) p), 0)
  | 0, i, k, p, out, hd, hi, hk, hio, ho => by
    obtain ⟨k, rfl⟩ : ∃ m, k = m + 1 := ⟨k - 1, by omega⟩
    have hml : (ys.map sB).length = ys.length := List.length_map ..
    rw [List.drop_eq_nil_of_le (by omega)] at hio ho ⊢
    have hp : p ≤ c.data.toList.length := hio
    rw [data_length] at hp
    have hs : (mkS out).size = out.length := mkS_size _
    have he := ext_size c p c.size
    simp only [tot, List.map_nil, List.sum_nil] at ho
    unfold spec_ApplyTo.l0
    rw [if_neg (by omega), if_pos (by omega), if_pos (by omega), Int.toNat_natCast, if_pos (by omega), ext_mkS, mkS_app, List.take_of_length_le (by rw [data_length]; exact Nat.le_refl _)]
    rfl
  | d + 1, i, k, p, out, hd, hi, hk, hio, ho => by
    obtain ⟨k, rfl⟩ : ∃ m, k = m + 1 := ⟨k - 1, by omega⟩
    have hml : (ys.map sB).length = ys.length := List.length_map ..
    have hlt : i < ys.length := by omega
    have hdk := List.drop_eq_getElem_cons hlt
    have hrd : rd_T38 (ys.map sB) (i : Int) = sB ys[i] := by rw [rdE (by omega), List.getElem_map]
    rw [hdk] at hio ho ⊢
    obtain ⟨q1, q2, q3, q4⟩ := hio
    rw [data_length] at q3
    have htot : tot (ys[i] :: ys.drop (i + 1)) = ys[i].new.length + tot (ys.drop (i + 1)) := by unfold tot; rw [List.map_cons, List.sum_cons]
    rw [htot] at ho
    have hs : (mkS out).size = out.length := mkS_size _
    have hn : (mkS ys[i].new).size = ys[i].new.length := mkS_size _
    have hbl : (btw c.data.toList p ys[i].s).length = ys[i].s - p := btw_length (by rw [data_length]; omega)
    have hes : (c.extract p ys[i].s).size = ys[i].s - p := by rw [ext_mkS, mkS_size]; exact hbl
    have f0 : (sB ys[i]).f0 = (ys[i].s : Int) := rfl
    have f1 : (sB ys[i]).f1 = (ys[i].e : Int) := rfl
    have f2 : (sB ys[i]).f2 = mkS ys[i].new := rfl
    unfold spec_ApplyTo.l0
    rw [hrd, f0, f1, f2, if_pos (by omega), if_pos (by omega), if_pos (by omega), if_pos (by omega), if_pos (by omega), if_pos (by omega), Int.toNat_natCast, Int.toNat_natCast, if_pos (by omega), if_pos (by rw [ByteArray.size_append]; omega), up1 (by omega), ext_mkS, mkS_app, mkS_app]
    have ih := apply_loop c hc ys hl d (i + 1) k ys[i].e (out ++ ((c.data.toList.take ys[i].s).drop p ++ ys[i].new)) (by omega) (by omega) (by omega) q4 (by
      rw [List.length_append, List.length_append]
      have : ((c.data.toList.take ys[i].s).drop p).length = ys[i].s - p := hbl
      omega)
    rw [ih, app_btw]
    congr 2
    simp only [List.append_assoc]
    rfl

theorem apply_ev (c : ByteArray) (es ys : List BE) (h : Eds c es ys) (k : Nat) (hk : es.length < k) (ht : spec_ToldOf.f k (es.map sB) (c.size : Int) = some 0) : spec_ApplyTo.f k c (es.map sB) = some (mkS (app c.data.toList ys 0), 0) := by
  have hsz : (es.map sB).length = es.length := List.length_map ..
  have hl6 := h.l6
  have hso : spec_Sorted.f (es.map sB) = some (ys.map sB) := by
    unfold spec_Sorted.f
    rw [if_pos (by omega)]
    have e1 : (es.map sB).map QFnToUnifiedReads.toE = es.map bE := by rw [List.map_map]; rfl
    rw [e1, h.sort, List.map_map]
    rfl
  unfold spec_ApplyTo.f
  rw [ht, Option.bind_some, if_pos rfl, hso, Option.bind_some]
  have := apply_loop c h.c6 ys (by rw [h.len]; exact h.l6) ys.length 0 k 0 [] rfl (Nat.zero_le _) (by rw [h.len]; exact hk) h.io (by have := h.tot; simp; omega)
  exact this

/-- a row of edits, as a row of cells -/
theorem ownE_of_R {w : World} {base : Nat} {ok : Nat → Prop} {v : Value} {es : List BE} (h : Kd.R k66 66 w base ok v (es.map fun y => (⟨(y.s : Int), (y.e : Int), mkS y.new⟩ : S66))) : w.ownsRow base 66 3 v es.length (rowE es) := by
  obtain ⟨_, inner, ho, hr⟩ := h
  have hin : inner = flat (es.map bE) := by
    refine flat_of _ inner (by have := hr.1; rw [show k66.sz = 3 from rfl] at this; simpa using this) fun j p hj => ?_
    rw [List.getElem?_map] at hj
    cases hx : es[j]? with
    | none => rw [hx] at hj; cases hj
    | some q =>
      rw [hx] at hj
      obtain rfl := Option.some.inj hj
      exact k66_openM (hr.2 j _ (by rw [List.getElem?_map, hx]; rfl))
  rw [hin, ← rowE_flat, List.length_map] at ho
  exact ho

set_option maxRecDepth 100000 in
theorem implTo_calls (W : World) (fa fb c : ByteArray) (A : Option Addr) (cap : Nat) (es ys : List BE) (ctx : Nat) (hctx : 1 ≤ ctx) (hctx2 : ctx ≤ 8) (h : Eds c es ys) (hfa : fa.size ≤ 1000000) (hfb : fb.size ≤ 1000000) (ht : Tab W)
    (hr : Kd.C k38 W A (es.map sB).length (es.map sB)) (hcap : (es.map sB).length ≤ cap) :
    Calls Tryd.prog 10 #[(.string fa), (.string fb), .string c, .slice A (es.map sB).length cap, .int .i64 ctx] W fun e w' => ToPost W fa fb c.data.toList ctx ys (.bool true) e w' := by
  have hsz : (es.map sB).length = es.length := List.length_map ..
  have hl6 := h.l6
  have hgv := impl_given.calls ((es.map sB).length + 1) A cap (es.map sB) _ W hr hcap (given_ev _ (by omega))
  have hmm : (es.map sB).map (fun x => (⟨x.f0, x.f1, x.f2⟩ : S66)) = es.map fun y => (⟨(y.s : Int), (y.e : Int), mkS y.new⟩ : S66) := by rw [List.map_map]; rfl
  rw [hmm, hsz] at hgv
  rw [hsz]
  have hto : ∀ W1 A1 c1, Below W.heap.size W W1 → W1.ownsRow 0 66 3 (.slice A1 es.length c1) es.length (rowE es) → Calls Tryd.prog 16 #[(.string fa), (.string fb), .string c, .slice A1 es.length c1, .int .i64 ctx] W1 fun e w' => ToPost W1 fa fb c.data.toList ctx ys .nilIface e w' := fun W1 A1 c1 hb ho =>
    toU_calls W1 fa fb c A1 c1 es ys ctx hctx hctx2 h hfa hfb (ht.stay hb (Nat.le_refl _)) ho
  have HTO := Aside0.mk hto
  clear hto hmm hsz hl6 h ht hr hcap
  go_enter Tryd.func10, Tryd.ntmps10
  go_wp2_with (first
    | (go_at_call 17; (with_reducible refine hgv.mono ?_); rintro e w1 ⟨v, rfl, hR, hb1⟩; have ho := own_lower (ownE_of_R hR) (Nat.zero_le _); obtain ⟨A1, c1, rfl⟩ := own_slice ho; have HO := Aside0.mk ho; have HB1 := Aside0.mk hb1; clear hR ho hb1)
    | (go_at_call 16; (with_reducible refine (HTO.out _ _ _ HB1.out HO.out).mono ?_); rintro e w2 ⟨U, rfl, hf, hb2⟩; have HF := Aside0.mk hf; have HB2 := Aside0.mk hb2; clear hf hb2))
  go_quiet (fail)
  go_wp2_with fail
  go_ret2
  exact ⟨U, rfl, HF.out, pw_below_drewN (HB1.out.trans (HB2.out.mono HB1.out.size)) _⟩
end Go.Proofs.YtonajgipkpnpoaaDoor.Un
