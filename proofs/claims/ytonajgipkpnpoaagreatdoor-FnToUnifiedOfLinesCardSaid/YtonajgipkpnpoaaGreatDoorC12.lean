/- What the reader's functions answer at a text that was told: take, number, span, header, line, ended. Printed by the kit's print; these sections cut out by wip/gen/cutfn.py. -/
import Derived.Test.YtonajgipkpnpoaaGreatDoorC11
import Derived.Test.YtonajgipkpnpoaaGreatDoorC02
import Derived.Lib.Hide
import Derived.Test.YtonajgipkpnpoaaGreatDoorC10
namespace Go.Proofs.YtonajgipkpnpoaaGreatDoor.Rd
open Go.RowKit Go.Proofs.YtonajgipkpnpoaaGreatDoorW.PrintWords Go.Proofs.YtonajgipkpnpoaaGreatDoorW.PrintLast Go.Proofs.YtonajgipkpnpoaaGreatDoorW.PrintMore Go.Uni
set_option linter.unusedVariables false
set_option linter.unusedSimpArgs false
theorem w64 {i : Int} (h0 : -9223372036854775808 ≤ i) (h1 : i ≤ 9223372036854775807) : wrap64 i = i := by unfold wrap64; omega
theorem bt_get (u : ByteArray) (i : Nat) (h : i < u.data.toList.length) : bt u (i : Int) = ((u.data.toList[i]).toNat : Int) := by
  have h2 : (i : Int).toNat < u.size := by rw [Int.toNat_natCast, ← data_length]; exact h
  rw [← bt_at u i h2]
  simp only [Int.toNat_natCast]
  rfl
theorem drop_head {u : ByteArray} {p : Nat} {c : UInt8} {r : Bs} (h : u.data.toList.drop p = c :: r) : p < u.size ∧ bt u (p : Int) = (c.toNat : Int) ∧ u.data.toList.drop (p + 1) = r := by
  have hlt : p < u.data.toList.length := by
    rcases Nat.lt_or_ge p u.data.toList.length with h1 | h1
    · exact h1
    · rw [List.drop_eq_nil_of_le h1] at h; cases h
  rw [List.drop_eq_getElem_cons hlt] at h
  injection h with h1 h2
  exact ⟨by rw [← data_length]; exact hlt, by rw [bt_get u p hlt, h1], h2⟩
theorem ext_drop {u : ByteArray} {p : Nat} {a r : Bs} (h : u.data.toList.drop p = a ++ r) : (u.extract p (p + a.length)).toList = a := by
  rw [ByteArray.toList_eq, ByteArray.data_extract, Array.toList_extract, List.extract_eq_take_drop, show p + a.length - p = a.length by omega, h, List.take_left]
theorem drop_size {u : ByteArray} {p : Nat} {a r : Bs} (h : u.data.toList.drop p = a ++ r) (hne : a ≠ []) : p + a.length ≤ u.size := by
  have := congrArg List.length h
  rw [List.length_drop, data_length, List.length_append] at this
  have := List.length_pos_iff.2 hne
  omega
theorem drop_more {u : ByteArray} {p : Nat} {a r : Bs} (h : u.data.toList.drop p = a ++ r) : u.data.toList.drop (p + a.length) = r := by
  rw [← List.drop_drop, h, List.drop_left]
theorem take_ev (u : ByteArray) (p : Nat) (o y : Pin) (d : Int) (s : ByteArray) (r : Bs) (hu : u.size ≤ 1000000000000000) (h : u.data.toList.drop p = s.data.toList ++ r) (hs : 0 < s.size) : spec_reader_take.f u p false o d y s = some (u, ((p + s.size : Nat) : Int), false, d) := by
  have hne : s.data.toList ≠ [] := by intro e; have := data_length s; rw [e] at this; simp at this; omega
  have h1 := drop_size h hne
  rw [data_length] at h1
  have h2 := ext_drop h
  rw [data_length] at h2
  have e1 : wrap64 ((u.size : Int) - (p : Int)) = (u.size : Int) - (p : Int) := w64 (by omega) (by omega)
  have e2 : wrap64 ((p : Int) + (s.size : Int)) = ((p + s.size : Nat) : Int) := by rw [w64 (by omega) (by omega)]; omega
  unfold spec_reader_take.f
  rw [e1, e2]
  clear e1 e2
  rw [if_neg (by omega), if_pos (by omega), if_pos (by omega), if_pos (by omega)]
  simp only [Int.toNat_natCast]
  exact if_pos (by rw [h2, ByteArray.toList_eq])
theorem val_lt_n : ∀ (n : Nat) (l : Bs), l.length = n → Digs l → val l < 10 ^ n
  | 0, l, h, _ => by
    rw [List.length_eq_zero_iff] at h
    subst h; simp [val]
  | n + 1, l, h, hd => by
    rcases List.eq_nil_or_concat l with rfl | ⟨t, c, rfl⟩
    · simp at h
    · rw [List.concat_eq_append] at *
      have h1 := val_lt_n n t (by simpa using h) (fun d hx => hd d (by simp [hx]))
      have h2 := hd c (by simp)
      rw [val_snoc, Nat.pow_succ]
      omega
theorem val_lt (l : Bs) (h : Digs l) : val l < 10 ^ l.length := val_lt_n _ l rfl h
def NoDig (r : Bs) : Prop := ∀ c t, r = c :: t → c.toNat < 48 ∨ 57 < c.toNat
theorem num_stop (k : Nat) (u : ByteArray) (p : Nat) (o y : Pin) (d v n : Int) (r : Bs) (h : u.data.toList.drop p = r) (hr : NoDig r) (hp : p ≤ u.size) (hn : 0 < n) : spec_reader_number.l0 (k + 2) v n u p false o d y = some (v, u, (p : Int), false, d) := by
  have stop : spec_reader_number.j1 (k + 1) v n false u p false o d y = some (v, u, (p : Int), false, d) := by
    rw [spec_reader_number.j1]
    rw [if_neg (by decide), if_neg (by decide)]
    have : (n == 0) = false := by simp; omega
    rw [this]
  rw [spec_reader_number.l0]
  by_cases h1 : (p : Int) < (u.size : Int)
  · rw [if_pos h1]
    by_cases h2 : n < 18
    · rw [if_pos h2, if_pos (by omega)]
      obtain ⟨c, t, hc⟩ : ∃ c t, r = c :: t := by
        cases r with
        | nil => exfalso; have := congrArg List.length h; rw [List.length_drop, data_length] at this; simp at this; omega
        | cons c t => exact ⟨c, t, rfl⟩
      rw [hc] at h
      obtain ⟨_, h4, _⟩ := drop_head h
      rcases hr c t hc with h5 | h5
      · rw [h4, if_neg (by omega)]; exact stop
      · rw [h4, if_pos (by omega)]
        have : decide ((c.toNat : Int) ≤ 57) = false := decide_eq_false (by omega)
        rw [this]; exact stop
    · rw [if_neg h2]; exact stop
  · rw [if_neg h1]; exact stop
theorem num_step (k : Nat) (u : ByteArray) (p : Nat) (o y : Pin) (d : Int) (v n : Nat) (c : UInt8) (r : Bs) (h : u.data.toList.drop p = c :: r) (hc : 48 ≤ c.toNat ∧ c.toNat ≤ 57) (hn : n < 18) (hv : v < 10 ^ n) (h0 : 0 < n → 0 < v) (hu : u.size ≤ 1000000000000000) :
    spec_reader_number.l0 (k + 2) v n u p false o d y = spec_reader_number.l0 k ((10 * v + (c.toNat - 48) : Nat) : Int) ((n + 1 : Nat) : Int) u ((p + 1 : Nat) : Int) false o d y := by
  obtain ⟨h1, h2, h3⟩ := drop_head h
  have hv2 : v < 10 ^ 17 ∨ v < 10 ^ 17 := by
    left
    exact Nat.lt_of_lt_of_le hv (Nat.pow_le_pow_right (by decide) (by omega))
  have hv3 : v < 100000000000000000 := by rcases hv2 with h | h <;> simpa using h
  have b1 : decide ((c.toNat : Int) ≤ 57) = true := decide_eq_true (by omega)
  have i1 : (p : Int) < (u.size : Int) := by omega
  have i2 : (n : Int) < 18 := by omega
  have i3 : (0 : Int) ≤ (p : Int) := by omega
  have i4 : (c.toNat : Int) ≥ 48 := by omega
  have g2 : (n : Int) > 0 → ¬ (v : Int) = 0 := fun g => by have := h0 (by omega); omega
  have e0 : ((c.toNat : Int) - 48) % 256 = ((c.toNat - 48 : Nat) : Int) := by omega
  have j2 : 10 * (v : Int) + ((c.toNat - 48 : Nat) : Int) = ((10 * v + (c.toNat - 48) : Nat) : Int) := by omega
  have j3 : (n : Int) + 1 = ((n + 1 : Nat) : Int) := by omega
  have j4 : (p : Int) + 1 = ((p + 1 : Nat) : Int) := by omega
  have e1 : wrap64 (10 * (v : Int)) = 10 * (v : Int) := w64 (by omega) (by omega)
  have e2 : wrap64 (10 * (v : Int) + ((c.toNat - 48 : Nat) : Int)) = 10 * (v : Int) + ((c.toNat - 48 : Nat) : Int) := w64 (by clear e1; omega) (by clear e1; omega)
  have e3 : wrap64 ((n : Int) + 1) = (n : Int) + 1 := w64 (by clear e1 e2; omega) (by clear e1 e2; omega)
  have e4 : wrap64 ((p : Int) + 1) = (p : Int) + 1 := w64 (by clear e1 e2 e3; omega) (by clear e1 e2 e3; omega)
  rw [j2] at e2
  rw [j3] at e3
  rw [j4] at e4
  clear hv hv2 hv3 hu h0 hc hn h1 h3
  rw [spec_reader_number.l0, h2, if_pos i1, if_pos i2, if_pos i3, if_pos i4, b1, spec_reader_number.j1, if_pos rfl, h2, e0, e1, j2, e2, j3, e3, j4, e4]
  by_cases g1 : (n : Int) > 0
  · rw [if_pos g1, if_neg (g2 g1), if_pos i3, if_pos i1]
  · rw [if_neg g1, if_pos i3, if_pos i1]
theorem num_loop (u : ByteArray) (o y : Pin) (d : Int) (r : Bs) (hr : NoDig r) (hu : u.size ≤ 1000000000000000) : ∀ (q pr : Bs) (p k : Nat), u.data.toList.drop p = q ++ r → Digs (pr ++ q) → (pr ++ q).length ≤ 18 → pr ++ q ≠ [] → (∀ a b, pr ++ q = a ++ b → a ≠ [] → b ≠ [] → 0 < val a) → p ≤ u.size → 2 * q.length + 1 < k →
    spec_reader_number.l0 k (val pr) pr.length u p false o d y = some ((val (pr ++ q) : Int), u, ((p + q.length : Nat) : Int), false, d)
  | [], pr, p, k, h, hd, hl, hne, hz, hp, hk => by
    obtain ⟨k, rfl⟩ : ∃ m, k = m + 2 := ⟨k - 2, by simp at hk; omega⟩
    rw [List.append_nil] at hne ⊢
    have := List.length_pos_iff.2 hne
    rw [num_stop k u p o y d _ _ r (by simpa using h) hr hp (by omega)]
    simp
  | c :: q, pr, p, k, h, hd, hl, hne, hz, hp, hk => by
    obtain ⟨k, rfl⟩ : ∃ m, k = m + 2 := ⟨k - 2, by simp at hk; omega⟩
    have hl2 : pr.length + (q.length + 1) ≤ 18 := by simpa using hl
    have hdp : Digs pr := fun x hx => hd x (by simp [hx])
    have h2 := drop_head (u := u) (p := p) (c := c) (r := q ++ r) (by simpa using h)
    rw [num_step k u p o y d (val pr) pr.length c (q ++ r) (by simpa using h) (hd c (by simp)) (by omega) (val_lt pr hdp) (fun hp0 => hz pr (c :: q) rfl (List.length_pos_iff.1 hp0) (by simp)) hu]
    have e1 : pr ++ c :: q = (pr ++ [c]) ++ q := by simp
    have := num_loop u o y d r hr hu q (pr ++ [c]) (p + 1) k h2.2.2 (by rw [← e1]; exact hd) (by rw [← e1]; exact hl) (by rw [← e1]; exact hne) (by rw [← e1]; exact hz) (by omega) (by simp at hk; omega)
    rw [val_snoc, List.length_append, List.length_singleton] at this
    rw [this, ← e1, List.length_cons, show p + 1 + q.length = p + (q.length + 1) by omega]
theorem number_ev (u : ByteArray) (p n : Nat) (o y : Pin) (d : Int) (r : Bs) (hr : NoDig r) (hu : u.size ≤ 1000000000000000) (h : u.data.toList.drop p = Go.Lib.decDigits n ++ r) (hn : n < 10 ^ 18) (k : Nat) (hk : 40 ≤ k) :
    spec_reader_number.f k u p false o d y = some ((n : Int), u, ((p + (Go.Lib.decDigits n).length : Nat) : Int), false, d) := by
  have hl := dec_length (k := 18) (by decide) hn
  have hp := drop_size h (dec_ne n)
  have := num_loop u o y d r hr hu (Go.Lib.decDigits n) [] p k (by simpa using h) (by simpa using dec_digs n) (by simpa using hl) (by simpa using dec_ne n) (fun a b e ha hb => dec_prefix n a b (by simpa using e) ha hb) (by omega) (by omega)
  unfold spec_reader_number.f
  rw [List.nil_append, val_dec] at this
  exact this
theorem span_ev (u : ByteArray) (p f n : Nat) (o y : Pin) (d : Int) (r : Bs) (hu : u.size ≤ 1000000000000000) (h : u.data.toList.drop p = rSpan f n ++ 32 :: r) (hf : f < 10 ^ 18) (hn : n < 10 ^ 18) (h0 : n = 0 → f = 1) (k : Nat) (hk : 40 ≤ k) :
    ∃ f', spec_reader_span.f k u p false o d y = some (f', (n : Int), u, ((p + (rSpan f n).length : Nat) : Int), false, d) ∧ f' = (if n = 0 then 0 else (f : Int)) := by
  have nd32 : ∀ t, NoDig (32 :: t) := fun t c t' e => by injection e with e1 _; subst e1; left; decide
  have nd44 : ∀ t, NoDig (44 :: t) := fun t c t' e => by injection e with e1 _; subst e1; left; decide
  unfold rSpan at h ⊢
  by_cases h1 : 1 < n
  · rw [if_pos h1] at h ⊢
    rw [List.append_assoc] at h
    have a1 := number_ev u p f o y d _ (nd44 _) hu h hf k hk
    have h2 := drop_more h
    obtain ⟨b1, b2, b3⟩ := drop_head h2
    have a2 := number_ev u (p + (Go.Lib.decDigits f).length + 1) n o y d _ (nd32 r) hu b3 hn k hk
    refine ⟨f, ?_, by rw [if_neg (by omega)]⟩
    have e1 : wrap64 (((p + (Go.Lib.decDigits f).length : Nat) : Int) + 1) = ((p + (Go.Lib.decDigits f).length + 1 : Nat) : Int) := by rw [w64 (by omega) (by omega)]; omega
    unfold spec_reader_span.f
    rw [a1]
    simp only [Option.bind_some]
    rw [if_pos (by omega), if_pos (by omega), b2, if_pos (by decide), e1, a2]
    show some _ = some _
    congr 5
    simp only [List.length_append, List.length_cons]
    omega
  · rw [if_neg h1] at h ⊢
    by_cases h2 : f = 1 ∧ n = 0
    · rw [if_pos h2] at h ⊢
      obtain ⟨_, rfl⟩ := h2
      have d0 : Go.Lib.decDigits 0 = [48] := by rw [decDigits_small (by decide)]; rfl
      have a1 := number_ev u p 0 o y d (44 :: ([48] ++ 32 :: r)) (nd44 _) hu (by rw [d0]; exact h) (by decide) k hk
      rw [d0] at a1
      have h3 : u.data.toList.drop (p + 1) = 44 :: ([48] ++ 32 :: r) := (drop_head (c := 48) (r := 44 :: ([48] ++ 32 :: r)) h).2.2
      obtain ⟨b1, b2, b3⟩ := drop_head h3
      have a2 := number_ev u (p + 1 + 1) 0 o y d _ (nd32 r) hu (by rw [d0]; exact b3) (by decide) k hk
      rw [d0] at a2
      refine ⟨0, ?_, by rw [if_pos rfl]⟩
      have e1 : wrap64 (((p + [(48 : UInt8)].length : Nat) : Int) + 1) = ((p + 1 + 1 : Nat) : Int) := by rw [w64 (by simp; omega) (by simp; omega)]; simp
      unfold spec_reader_span.f
      rw [a1]
      simp only [Option.bind_some]
      rw [if_pos (by simp; omega), if_pos (by omega), show ((p + [(48 : UInt8)].length : Nat) : Int) = ((p + 1 : Nat) : Int) from rfl, b2, if_pos (by decide), show wrap64 (((p + 1 : Nat) : Int) + 1) = ((p + 1 + 1 : Nat) : Int) from e1, a2]
      rfl
    · rw [if_neg h2] at h ⊢
      have hn1 : n = 1 := by
        rcases Nat.eq_zero_or_pos n with h3 | h3
        · exact absurd ⟨h0 h3, h3⟩ h2
        · omega
      subst hn1
      have a1 := number_ev u p f o y d _ (nd32 r) hu h hf k hk
      have h3 := drop_more h
      obtain ⟨b1, b2, b3⟩ := drop_head h3
      refine ⟨f, ?_, by rw [if_neg (by decide)]⟩
      unfold spec_reader_span.f
      rw [a1]
      simp only [Option.bind_some]
      rw [if_pos (by omega), if_pos (by omega), b2, if_neg (by decide)]
      rfl
theorem header_ev (u : ByteArray) (p : Nat) (o y : Pin) (d : Int) (h : Hk) (r : Bs) (hu : u.size ≤ 1000000000000000) (ht : u.data.toList.drop p = rHead h ++ r) (hf : h.f < 10 ^ 18) (hf2 : h.t < 10 ^ 18) (hn : fromC h.its < 10 ^ 18) (hm : toC h.its < 10 ^ 18) (h0 : fromC h.its = 0 → h.f = 1) (h1 : toC h.its = 0 → h.t = 1) (k : Nat) (hk : 40 ≤ k) :
    ∃ f' t', spec_reader_header.f k u p false o d y = some (f', (fromC h.its : Int), t', (toC h.its : Int), 0, 0, u, ((p + (rHead h).length : Nat) : Int), false, d) ∧ f' = (if fromC h.its = 0 then 0 else (h.f : Int)) := by
  unfold rHead at ht ⊢
  simp only [List.append_assoc] at ht
  have t1 := take_ev u p o y d ⟨#[64, 64, 32, 45]⟩ _ hu ht (by decide)
  have s1 := drop_more ht
  have s1' : u.data.toList.drop (p + 4) = rSpan h.f (fromC h.its) ++ 32 :: (43 :: (rSpan h.t (toC h.its) ++ ([32, 64, 64, 10] ++ r))) := s1
  obtain ⟨f', a1, a2⟩ := span_ev u (p + 4) h.f (fromC h.its) o y d _ hu s1' hf hn h0 k hk
  have s2 := drop_more s1'
  have s2' : u.data.toList.drop (p + 4 + (rSpan h.f (fromC h.its)).length) = (⟨#[32, 43]⟩ : ByteArray).data.toList ++ (rSpan h.t (toC h.its) ++ ([32, 64, 64, 10] ++ r)) := s2
  have t2 := take_ev u _ o y d ⟨#[32, 43]⟩ _ hu s2' (by decide)
  have s3 := drop_more s2'
  have s3' : u.data.toList.drop (p + 4 + (rSpan h.f (fromC h.its)).length + 2) = rSpan h.t (toC h.its) ++ 32 :: ([64, 64, 10] ++ r) := s3
  obtain ⟨t', c1, _⟩ := span_ev u _ h.t (toC h.its) o y d _ hu s3' hf2 hm h1 k hk
  have s4 := drop_more s3'
  have s4' : u.data.toList.drop (p + 4 + (rSpan h.f (fromC h.its)).length + 2 + (rSpan h.t (toC h.its)).length) = (⟨#[32, 64, 64, 10]⟩ : ByteArray).data.toList ++ r := s4
  have t3 := take_ev u _ o y d ⟨#[32, 64, 64, 10]⟩ _ hu s4' (by decide)
  refine ⟨f', t', ?_, a2⟩
  unfold spec_reader_header.f
  rw [t1]
  simp only [Option.bind_some]
  rw [show ((p + (⟨#[64, 64, 32, 45]⟩ : ByteArray).size : Nat) : Int) = ((p + 4 : Nat) : Int) from rfl, a1]
  simp only [Option.bind_some]
  rw [t2]
  simp only [Option.bind_some]
  rw [show ((p + 4 + (rSpan h.f (fromC h.its)).length + (⟨#[32, 43]⟩ : ByteArray).size : Nat) : Int) = ((p + 4 + (rSpan h.f (fromC h.its)).length + 2 : Nat) : Int) from rfl, c1]
  simp only [Option.bind_some]
  rw [t3]
  show some _ = some _
  have : p + 4 + (rSpan h.f (fromC h.its)).length + 2 + (rSpan h.t (toC h.its)).length + (⟨#[32, 64, 64, 10]⟩ : ByteArray).size = p + ([64, 64, 32, 45] ++ rSpan h.f (fromC h.its) ++ [32, 43] ++ rSpan h.t (toC h.its) ++ [32, 64, 64, 10]).length := by
    simp only [List.length_append, List.length_cons, List.length_nil, show (⟨#[32, 64, 64, 10]⟩ : ByteArray).size = 4 from rfl]
    omega
  rw [this]
theorem ext_mk {u : ByteArray} {p : Nat} {a r : Bs} (h : u.data.toList.drop p = a ++ r) : u.extract p (p + a.length) = ⟨a.toArray⟩ := by
  have := ext_drop h
  rw [ByteArray.toList_eq] at this
  exact ByteArray.ext (by rw [← Array.toArray_toList (xs := (u.extract p (p + a.length)).data), this])
theorem line_loop (u : ByteArray) (p0 : Nat) (o y : Pin) (d : Int) (hu : u.size ≤ 1000000000000000) : ∀ (l r : Bs) (p k : Nat), u.data.toList.drop p = l ++ 10 :: r → NoNl l → p0 ≤ p → l.length < k →
    spec_reader_line.l0 k p u p0 false o d y = some (u.extract p0 (p + l.length), u, ((p + l.length + 1 : Nat) : Int), false, d)
  | [], r, p, k, h, hl, hp, hk => by
    obtain ⟨k, rfl⟩ : ∃ m, k = m + 1 := ⟨k - 1, by simp at hk; omega⟩
    obtain ⟨h1, h2, h3⟩ := drop_head (c := 10) (r := r) (by simpa using h)
    have i1 : (p : Int) < (u.size : Int) := by omega
    have i2 : (0 : Int) ≤ (p : Int) := by omega
    have i3 : (0 : Int) ≤ (p0 : Int) := by omega
    have i4 : (p0 : Int) ≤ (p : Int) := by omega
    have i5 : (p : Int) ≤ (u.size : Int) := by omega
    have j4 : (p : Int) + 1 = ((p + 1 : Nat) : Int) := by omega
    have e4 : wrap64 ((p : Int) + 1) = (p : Int) + 1 := w64 (by omega) (by omega)
    rw [spec_reader_line.l0, if_pos i1, if_pos i2, h2, if_pos (by decide), if_pos i3, if_pos i4, if_pos i5, e4, j4]
    simp only [Int.toNat_natCast, List.length_nil, Nat.add_zero]
  | c :: l, r, p, k, h, hl, hp, hk => by
    obtain ⟨k, rfl⟩ : ∃ m, k = m + 1 := ⟨k - 1, by simp at hk; omega⟩
    obtain ⟨h1, h2, h3⟩ := drop_head (c := c) (r := l ++ 10 :: r) (by simpa using h)
    have hc : ¬ (c.toNat : Int) = 10 := by
      intro he
      exact hl c (by simp) (UInt8.toNat_inj.1 (by have : c.toNat = 10 := by omega
                                                  rw [this]; rfl))
    have ih := line_loop u p0 o y d hu l r (p + 1) k h3 (fun x hx => hl x (by simp [hx])) (by omega) (by simp at hk; omega)
    have i1 : (p : Int) < (u.size : Int) := by omega
    have i2 : (0 : Int) ≤ (p : Int) := by omega
    have j4 : (p : Int) + 1 = ((p + 1 : Nat) : Int) := by omega
    have e4 : wrap64 ((p : Int) + 1) = (p : Int) + 1 := w64 (by omega) (by omega)
    rw [spec_reader_line.l0, if_pos i1, if_pos i2, h2, if_neg hc, e4, j4, ih, List.length_cons, show p + 1 + l.length = p + (l.length + 1) by clear e4; omega]
theorem line_ev (u : ByteArray) (p : Nat) (o y : Pin) (d : Int) (l r : Bs) (hu : u.size ≤ 1000000000000000) (h : u.data.toList.drop p = l ++ 10 :: r) (hl : NoNl l) (k : Nat) (hk : l.length < k) :
    spec_reader_line.f k u p false o d y = some (⟨l.toArray⟩, u, ((p + l.length + 1 : Nat) : Int), false, d) := by
  unfold spec_reader_line.f
  rw [line_loop u p o y d hu l r p k h hl (Nat.le_refl _) hk, ext_mk h]
theorem ended_no (u : ByteArray) (p : Nat) (o y : Pin) (d : Int) (s : ByteArray) (r : Bs) (hu : u.size ≤ 1000000000000000) (h : u.data.toList.drop p = noEnd ++ r) : spec_reader_ended.f u p false o d y s = some (s, u, ((p + 28 : Nat) : Int), false, d) := by
  have hl28 : noEnd.length = 28 := rfl
  have hne : noEnd ≠ [] := by unfold noEnd; exact List.cons_ne_nil _ _
  have h1' := drop_size h hne
  have h2 := ext_drop h
  rw [hl28] at h1' h2
  have i1 : (u.size : Int) - (p : Int) ≥ 28 := by omega
  have i2 : (0 : Int) ≤ (p : Int) := by omega
  have i3 : (p : Int) ≤ (p : Int) + 28 := by omega
  have i4 : (p : Int) + 28 ≤ (u.size : Int) := by omega
  have j4 : ((p : Int) + 28).toNat = p + 28 := by omega
  have j5 : (p : Int) + 28 = ((p + 28 : Nat) : Int) := by omega
  have e1 : wrap64 ((u.size : Int) - (p : Int)) = (u.size : Int) - (p : Int) := w64 (by omega) (by omega)
  have e2 : wrap64 ((p : Int) + 28) = (p : Int) + 28 := w64 (by clear e1; omega) (by clear e1; omega)
  unfold spec_reader_ended.f
  rw [e1, e2, if_pos i1, if_pos i2, if_pos i3, if_pos i4, j4, Int.toNat_natCast, j5]
  exact if_pos h2
theorem ended_yes (u : ByteArray) (p : Nat) (o y : Pin) (d : Int) (s : ByteArray) (r : Bs) (hu : u.size ≤ 1000000000000000) (hp : p ≤ u.size) (h : u.data.toList.drop p = r) (hr : ∀ c t, r = c :: t → c ≠ 92) (hs : s.size ≤ 1000000000000000) : spec_reader_ended.f u p false o d y s = some (s ++ ⟨#[10]⟩, u, (p : Int), false, d) := by
  have i5 : s.size + 1 ≤ 9223372036854775807 := by omega
  have e1 : wrap64 ((u.size : Int) - (p : Int)) = (u.size : Int) - (p : Int) := w64 (by omega) (by omega)
  unfold spec_reader_ended.f
  rw [e1]
  by_cases i1 : (u.size : Int) - (p : Int) ≥ 28
  · have i2 : (0 : Int) ≤ (p : Int) := by clear e1; omega
    have i3 : (p : Int) ≤ (p : Int) + 28 := by clear e1; omega
    have i4 : (p : Int) + 28 ≤ (u.size : Int) := by clear e1; omega
    have j4 : ((p : Int) + 28).toNat = p + 28 := by clear e1; omega
    have e2 : wrap64 ((p : Int) + 28) = (p : Int) + 28 := w64 (by clear e1; omega) (by clear e1; omega)
    have hne : ¬ (u.extract p (p + 28)).toList = noEnd := by
      intro he
      rw [ByteArray.toList_eq, ByteArray.data_extract, Array.toList_extract, List.extract_eq_take_drop, h] at he
      cases r with
      | nil => simp [noEnd] at he
      | cons c t =>
        rw [show p + 28 - p = 28 by clear e1 e2; omega] at he
        have : c = 92 := by
          have := congrArg List.head? he
          simpa [noEnd] using this
        exact hr c t rfl this
    rw [e2, if_pos i1, if_pos i2, if_pos i3, if_pos i4, j4, Int.toNat_natCast]
    exact (if_neg hne).trans (if_pos i5)
  · rw [if_neg i1, if_pos i5]
end Go.Proofs.YtonajgipkpnpoaaGreatDoor.Rd
namespace Go.Proofs.YtonajgipkpnpoaaGreatDoor.PLnN
open Go.Proofs.YtonajgipkpnpoaaGreatDoor.PFnToUnifiedOfStrings
open Go.RowKit Go.Proofs.YtonajgipkpnpoaaGreatDoorW.PrintWords Go.Proofs.YtonajgipkpnpoaaGreatDoorW.PrintLast Go.Proofs.YtonajgipkpnpoaaGreatDoorW.PrintMore
set_option linter.unusedVariables false
set_option linter.unusedSimpArgs false
def spec_LinesOf.l0 : Nat → ByteArray → List ByteArray → Int → Int → Int → Option (List ByteArray)
  | 0, _, _, _, _, _ => none
  | k + 1, x0, x3, x4, x8, x9 => if x9 < x8 then (if 0 ≤ x9 then (if x9 < (x0.size : Int) then (if (bt x0 x9) = 10 then (if 0 ≤ x4 then (if x4 ≤ (wrap64 (x9 + 1)) then (if (wrap64 (x9 + 1)) ≤ (x0.size : Int) then (if x3.length < 8796093022208 then (spec_LinesOf.l0 k x0 (x3 ++ [x0.extract (x4 : Int).toNat ((wrap64 (x9 + 1)) : Int).toNat]) (wrap64 (x9 + 1)) x8 (wrap64 (x9 + 1))) else (none)) else (none)) else (none)) else (none)) else (spec_LinesOf.l0 k x0 x3 x4 x8 (wrap64 (x9 + 1)))) else (none)) else (none)) else (if x4 < (x0.size : Int) then (if 0 ≤ x4 then (if x4 ≤ (x0.size : Int) then (if x3.length < 8796093022208 then (some (x3 ++ [x0.extract (x4 : Int).toNat x0.size])) else (none)) else (none)) else (none)) else (some x3))
def spec_LinesOf.f (k : Nat) (a0 : ByteArray) : Option (List ByteArray) := spec_LinesOf.l0 k a0 (([] : List ByteArray)) 0 (a0.size : Int) 0
set_option maxHeartbeats 8000000 in
set_option maxRecDepth 100000 in
theorem spec_LinesOf.calls (k : Nat) (a0 : ByteArray) (r : List ByteArray) (w : World) (h : spec_LinesOf.f k a0 = some r) :
    Calls Tryz.prog 12 #[.string a0] w fun e w' => ∃ v0_ : Value, e = .returned (v0_) ∧ Kd.R Kd.string 9 w' w.heap.size (fun _ => True) v0_ r ∧ Below w.heap.size w w' := by
  have HB := Aside0.mk (Below.refl w.heap.size w)
  have H : (spec_LinesOf.l0 k a0 (([] : List ByteArray)) 0 (a0.size : Int) 0) = some r := h
  clear h
  obtain ⟨y102, hy102⟩ : ∃ y_ : List ByteArray, y_ = (([] : List ByteArray)) := ⟨_, rfl⟩
  replace H : (spec_LinesOf.l0 k a0 y102 0 (a0.size : Int) 0) = some r := by first | (rw [hy102]; with_reducible exact H) | (have H2_ := (Option.bind_some _ _).symm.trans H; rw [hy102]; with_reducible exact H2_) | (have H2_ := (Option.bind_some _ _).symm.trans H; with_reducible exact H2_) | with_reducible exact H | (rw [hy102]; exact H) | exact H
  have Ny102 := Aside0.mk hy102
  clear hy102
  have H' := Aside0.mk H
  clear H
  go_enter Tryz.func12, Tryz.ntmps12
  go_wp2_with (first | ((with_reducible refine gate_dst (N := 6) rfl ?_); refine Kd.R_lit Kd.string _ 9 ?hg (N := 6) ?hd (xs := ([] : List ByteArray)) (inner := []) (ok := fun _ => True) (okp := fun _ => True) ?hr ?hp (fun _ hk => hk) trivial (Below.refl _ _) (Nat.le_refl _) (by simp) ?_; (case hd => rfl); (case hg => rfl); (case hr => first | (go_simp; done) | (go_simp; rfl)); (case hp => exact (Reps.none _ _)); intro v103 w2 ho3 hb hg_ hnew_; clear hg_ hnew_; (first | rw [← Ny102.out] at ho3 | (simp only [Int.reduceToNat] at ho3; rw [← Ny102.out] at ho3)); have n0_ := Aside0.mk (Kd.R_lower ho3 (below_size (by repeat (first | (with_reducible first | exact HB.out | apply below_alloc | apply pw_below_drewN | apply below_drew1) | exact HB.out)))); have n1_ := Aside0.mk (below_step (by repeat (first | (with_reducible first | exact HB.out | apply below_alloc | apply pw_below_drewN | apply below_drew1) | exact HB.out)) hb); clear HB; have HO104 := n0_; have HB := n1_; clear n0_ n1_; clear hb ho3))
  go_loopg [3, 4, 9] k (fun kq v3 v4 v9 w' => ∃ (x3_1 : List ByteArray) (x4_1 : Int) (x9_1 : Int), v4 = .int .i64 x4_1 ∧ v9 = .int .i64 x9_1 ∧ Aside0 (spec_LinesOf.l0 kq a0 x3_1 x4_1 (a0.size : Int) x9_1 = some r) ∧ Aside0 (kq ≤ k) ∧ Aside0 (Kd.R Kd.string 9 w' w.heap.size (fun _ => True) v3 x3_1) ∧ Aside0 (Below w.heap.size w w'))
  case atStart => exact ⟨(y102), (0), (0), (by first | rfl | (simp; done) | (simp [*]; done)), (by first | rfl | (simp; done) | (simp [*]; done)), H', ⟨Nat.le_refl _⟩, ⟨by (with_reducible repeat (first | apply Kd.R_alloc | apply Kd.R_drewN | apply Kd.R_drew)); exact HO104.out⟩, ⟨by repeat (first | (with_reducible first | exact HB.out | apply below_alloc | apply pw_below_drewN | apply below_drew1) | exact HB.out)⟩⟩
  case round =>
    clear H'
    try clear c1
    try clear p2
    obtain ⟨x3_1, x4_1, x9_1, rfl, rfl, HA, HK1, HO_3, HB⟩ := hrel
    cases gk with
    | zero => exact absurd HA.out (by simp [spec_LinesOf.l0])
    | succ k1 =>
      have H := HA.out
      clear HA
      simp only [spec_LinesOf.l0] at H
      by_cases c4 : x9_1 < (a0.size : Int)
      · rw [if_pos c4] at H
        have c4b0 : decide (x9_1 < (a0.size : Int)) = true := decide_eq_true c4
        clear c4
        by_cases c5 : 0 ≤ x9_1
        · rw [if_pos c5] at H
          have c5b0 : decide (0 ≤ x9_1) = true := decide_eq_true c5
          clear c5
          by_cases c6 : x9_1 < (a0.size : Int)
          · rw [if_pos c6] at H
            have c6b0 : decide (x9_1 < (a0.size : Int)) = true := decide_eq_true c6
            clear c6
            by_cases c8 : (bt a0 x9_1) = 10
            · rw [if_pos c8] at H
              have c8b0 : ((bt a0 x9_1) == 10) = true := beq_iff_eq.mpr c8
              have c8b1 : ((bt a0 x9_1) != 10) = false := bne_eq_false_iff_eq.mpr c8
              clear c8
              by_cases c9 : 0 ≤ x4_1
              · rw [if_pos c9] at H
                have c9b0 := eq_true c9
                have c9b1 : decide (0 ≤ x4_1) = true := decide_eq_true c9
                clear c9
                by_cases c10 : x4_1 ≤ (wrap64 (x9_1 + 1))
                · rw [if_pos c10] at H
                  have c10b0 := eq_true c10
                  have c10b1 : decide (x4_1 ≤ (wrap64 (x9_1 + 1))) = true := decide_eq_true c10
                  by_cases c11 : (wrap64 (x9_1 + 1)) ≤ (a0.size : Int)
                  · rw [if_pos c11] at H
                    have c11b0 := eq_true c11
                    have c11b1 : decide ((wrap64 (x9_1 + 1)) ≤ (a0.size : Int)) = true := decide_eq_true c11
                    by_cases c12 : x3_1.length < 8796093022208
                    · rw [if_pos c12] at H
                      have LMc12 := Aside0.mk c12
                      clear c12
                      obtain ⟨y105, hy105⟩ : ∃ y_ : List ByteArray, y_ = (x3_1 ++ [a0.extract (x4_1 : Int).toNat ((wrap64 (x9_1 + 1)) : Int).toNat]) := ⟨_, rfl⟩
                      replace H : (spec_LinesOf.l0 k1 a0 y105 (wrap64 (x9_1 + 1)) (a0.size : Int) (wrap64 (x9_1 + 1))) = some r := by first | (rw [hy105]; with_reducible exact H) | (have H2_ := (Option.bind_some _ _).symm.trans H; rw [hy105]; with_reducible exact H2_) | (have H2_ := (Option.bind_some _ _).symm.trans H; with_reducible exact H2_) | with_reducible exact H | (rw [hy105]; exact H) | exact H
                      have Ny105 := Aside0.mk hy105
                      clear hy105
                      have H' := Aside0.mk H
                      clear H
                      have p7 : 0 ≤ (x9_1 : Int) := of_decide_eq_true (by first | (with_reducible assumption) | assumption)
                      have q7 : x9_1 < (a0.size : Int) := of_decide_eq_true (by first | (with_reducible assumption) | assumption)
                      have hx7 := bt_at a0 x9_1
                      replace p7 := eq_true p7
                      replace q7 := eq_true q7
                      go_wp2_with (first | ((with_reducible refine gate_builtin (b := .append) (xs := #[.tmp 16, .tmp 22]) rfl ?_); at_builtin; refine Kd.R_append Kd.string (w0 := w) w.heap.size rfl (.tmp 16) (.tmp 22) 29 9 (.string ⟨#[]⟩) 16 rfl Tryz.underlying29 info9 rfl (by decide) (by omega) u3 x3_1 (a0.extract (x4_1 : Int).toNat ((wrap64 (x9_1 + 1)) : Int).toNat) [.string (a0.extract (x4_1 : Int).toNat ((wrap64 (x9_1 + 1)) : Int).toNat)] (fun _ => True) (fun _ => False) rfl rfl ?aP (fun _ hk => hk.elim) ?aF ?aO ?aB ?aS ?aL ?_; (case aP => exact rfl); (case aB => exact (by repeat (first | (with_reducible first | exact HB.out | apply below_alloc | apply pw_below_drewN | apply below_drew1) | exact HB.out))); (case aF => exact (fun _ _ => trivial)); (case aO => exact (by (with_reducible repeat (first | apply Kd.R_alloc | apply Kd.R_drewN | apply Kd.R_drew)); exact HO_3.out)); (case aS => exact (below_size (by repeat (first | (with_reducible first | exact HB.out | apply below_alloc | apply pw_below_drewN | apply below_drew1) | exact HB.out)))); (case aL => have := LMc12.out; omega); intro v106 w13 ho hb hg hat; rw [← Ny105.out] at ho; have n0_ := Aside0.mk (hb); have n1_ := Aside0.mk (ho); clear HB; clear HO_3; have HB := n0_; have HO107 := n1_; clear n0_ n1_; clear ho hb hg hat))
                      go_roundg k1
                      case measure => have := HK1.out; omega
                      case rel => exact ⟨(y105), (wrap64 (x9_1 + 1)), (wrap64 (x9_1 + 1)), (by first | rfl | (simp; done) | (simp [*]; done)), (by first | rfl | (simp; done) | (simp [*]; done)), H', ⟨by have := HK1.out; omega⟩, ⟨by (with_reducible repeat (first | apply Kd.R_alloc | apply Kd.R_drewN | apply Kd.R_drew)); exact HO107.out⟩, ⟨by repeat (first | (with_reducible first | exact HB.out | apply below_alloc | apply pw_below_drewN | apply below_drew1) | exact HB.out)⟩⟩
                    · rw [if_neg c12] at H
                      exact absurd H (by simp)
                  · rw [if_neg c11] at H
                    exact absurd H (by simp)
                · rw [if_neg c10] at H
                  exact absurd H (by simp)
              · rw [if_neg c9] at H
                exact absurd H (by simp)
            · rw [if_neg c8] at H
              have c8b0 : ((bt a0 x9_1) == 10) = false := beq_eq_false_iff_ne.mpr c8
              have c8b1 : ((bt a0 x9_1) != 10) = true := bne_iff_ne.mpr c8
              have H' := Aside0.mk H
              clear H
              have p7 : 0 ≤ (x9_1 : Int) := of_decide_eq_true (by first | (with_reducible assumption) | assumption)
              have q7 : x9_1 < (a0.size : Int) := of_decide_eq_true (by first | (with_reducible assumption) | assumption)
              have hx7 := bt_at a0 x9_1
              replace p7 := eq_true p7
              replace q7 := eq_true q7
              go_wp2
              go_roundg k1
              case measure => have := HK1.out; omega
              case rel => exact ⟨(x3_1), (x4_1), (wrap64 (x9_1 + 1)), (by first | rfl | (simp; done) | (simp [*]; done)), (by first | rfl | (simp; done) | (simp [*]; done)), H', ⟨by have := HK1.out; omega⟩, ⟨by (with_reducible repeat (first | apply Kd.R_alloc | apply Kd.R_drewN | apply Kd.R_drew)); exact HO_3.out⟩, ⟨by repeat (first | (with_reducible first | exact HB.out | apply below_alloc | apply pw_below_drewN | apply below_drew1) | exact HB.out)⟩⟩
          · rw [if_neg c6] at H
            exact absurd H (by simp)
        · rw [if_neg c5] at H
          exact absurd H (by simp)
      · rw [if_neg c4] at H
        have c4b0 : decide (x9_1 < (a0.size : Int)) = false := decide_eq_false c4
        clear c4
        by_cases c14 : x4_1 < (a0.size : Int)
        · rw [if_pos c14] at H
          have c14b0 : decide (x4_1 < (a0.size : Int)) = true := decide_eq_true c14
          clear c14
          by_cases c15 : 0 ≤ x4_1
          · rw [if_pos c15] at H
            have c15b0 := eq_true c15
            have c15b1 : decide (0 ≤ x4_1) = true := decide_eq_true c15
            clear c15
            by_cases c16 : x4_1 ≤ (a0.size : Int)
            · rw [if_pos c16] at H
              have c16b0 := eq_true c16
              have c16b1 : decide (x4_1 ≤ (a0.size : Int)) = true := decide_eq_true c16
              clear c16
              by_cases c17 : x3_1.length < 8796093022208
              · rw [if_pos c17] at H
                have LMc17 := Aside0.mk c17
                clear c17
                obtain ⟨y108, hy108⟩ : ∃ y_ : List ByteArray, y_ = (x3_1 ++ [a0.extract (x4_1 : Int).toNat a0.size]) := ⟨_, rfl⟩
                replace H : (some y108) = some r := by first | (rw [hy108]; with_reducible exact H) | (have H2_ := (Option.bind_some _ _).symm.trans H; rw [hy108]; with_reducible exact H2_) | (have H2_ := (Option.bind_some _ _).symm.trans H; with_reducible exact H2_) | with_reducible exact H | (rw [hy108]; exact H) | exact H
                have Ny108 := Aside0.mk hy108
                clear hy108
                obtain rfl := Option.some.inj H
                go_wp2_with (first | ((with_reducible refine gate_builtin (b := .append) (xs := #[.tmp 31, .tmp 35]) rfl ?_); at_builtin; refine Kd.R_append Kd.string (w0 := w) w.heap.size rfl (.tmp 31) (.tmp 35) 29 9 (.string ⟨#[]⟩) 16 rfl Tryz.underlying29 info9 rfl (by decide) (by omega) u3 x3_1 (a0.extract (x4_1 : Int).toNat a0.size) [.string (a0.extract (x4_1 : Int).toNat a0.size)] (fun _ => True) (fun _ => False) rfl rfl ?aP (fun _ hk => hk.elim) ?aF ?aO ?aB ?aS ?aL ?_; (case aP => exact rfl); (case aB => exact (by repeat (first | (with_reducible first | exact HB.out | apply below_alloc | apply pw_below_drewN | apply below_drew1) | exact HB.out))); (case aF => exact (fun _ _ => trivial)); (case aO => exact (by (with_reducible repeat (first | apply Kd.R_alloc | apply Kd.R_drewN | apply Kd.R_drew)); exact HO_3.out)); (case aS => exact (below_size (by repeat (first | (with_reducible first | exact HB.out | apply below_alloc | apply pw_below_drewN | apply below_drew1) | exact HB.out)))); (case aL => have := LMc17.out; omega); intro v109 w18 ho hb hg hat; rw [← Ny108.out] at ho; have n0_ := Aside0.mk (hb); have n1_ := Aside0.mk (ho); clear HB; clear HO_3; have HB := n0_; have HO110 := n1_; clear n0_ n1_; clear ho hb hg hat))
                go_ret
                exact ⟨_, by first | rfl | (simp [errW_none, errW_some] <;> rfl) | (simp [*, errW_none, errW_some] <;> rfl), by (with_reducible repeat (first | apply Kd.R_alloc | apply Kd.R_drewN | apply Kd.R_drew)); exact HO110.out, by repeat (first | (with_reducible first | exact HB.out | apply below_alloc | apply pw_below_drewN | apply below_drew1) | exact HB.out)⟩
              · rw [if_neg c17] at H
                exact absurd H (by simp)
            · rw [if_neg c16] at H
              exact absurd H (by simp)
          · rw [if_neg c15] at H
            exact absurd H (by simp)
        · rw [if_neg c14] at H
          have c14b0 : decide (x4_1 < (a0.size : Int)) = false := decide_eq_false c14
          clear c14
          obtain rfl := Option.some.inj H
          go_wp2
          go_ret
          exact ⟨_, by first | rfl | (simp [errW_none, errW_some] <;> rfl) | (simp [*, errW_none, errW_some] <;> rfl), by (with_reducible repeat (first | apply Kd.R_alloc | apply Kd.R_drewN | apply Kd.R_drew)); exact HO_3.out, by repeat (first | (with_reducible first | exact HB.out | apply below_alloc | apply pw_below_drewN | apply below_drew1) | exact HB.out)⟩
end Go.Proofs.YtonajgipkpnpoaaGreatDoor.PLnN
