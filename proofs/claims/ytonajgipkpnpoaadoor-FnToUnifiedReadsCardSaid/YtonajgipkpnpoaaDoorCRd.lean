/- What the reader's functions answer at a text that was told: take, number, span, header, line, ended. -/
import Derived.Test.YtonajgipkpnpoaaDoorRdQ
import Derived.Test.YtonajgipkpnpoaaDoorCUni
import Derived.Lib.Hide
import Derived.Test.YtonajgipkpnpoaaDoorCBw
import Derived.Deep.LoopGhost
import Derived.Deep.DeepCutAuto
import Derived.WalkSpells
namespace Go.Proofs.YtonajgipkpnpoaaDoor.Rd
open Go.RowKit Go.Proofs.YtonajgipkpnpoaaDoorW.PrintWords Go.Proofs.YtonajgipkpnpoaaDoorW.PrintLast Go.Proofs.YtonajgipkpnpoaaDoorW.PrintMore Go.Uni
set_option linter.unusedVariables false
set_option linter.unusedSimpArgs false

theorem w64 {i : Int} (h0 : -9223372036854775808 ≤ i) (h1 : i ≤ 9223372036854775807) : wrap64 i = i := by unfold wrap64; omega

theorem bt_get (u : ByteArray) (i : Nat) (h : i < u.data.toList.length) : bt u (i : Int) = ((u.data.toList[i]).toNat : Int) := by
  have h2 : (i : Int).toNat < u.size := by rw [Int.toNat_natCast, ← data_length]; exact h
  rw [← bt_at u i h2]
  simp only [Int.toNat_natCast]
  rfl

theorem drop_head {u : ByteArray} {p : Nat} {c : UInt8} {r : Bs} (h : u.data.toList.drop p = c :: r) : p < u.size ∧ bt u (p : Int) = (c.toNat : Int) ∧ u.data.toList.drop (p + 1) = r := by
  have hlt : p < u.data.toList.length := by
    rcases Nat.lt_or_ge p u.data.toList.length with h1 | h1
    · exact h1
    · rw [List.drop_eq_nil_of_le h1] at h; cases h
  rw [List.drop_eq_getElem_cons hlt] at h
  injection h with h1 h2
  exact ⟨by rw [← data_length]; exact hlt, by rw [bt_get u p hlt, h1], h2⟩

theorem ext_drop {u : ByteArray} {p : Nat} {a r : Bs} (h : u.data.toList.drop p = a ++ r) : (u.extract p (p + a.length)).toList = a := by
  rw [ByteArray.toList_eq, ByteArray.data_extract, Array.toList_extract, List.extract_eq_take_drop, show p + a.length - p = a.length by omega, h, List.take_left]

theorem drop_size {u : ByteArray} {p : Nat} {a r : Bs} (h : u.data.toList.drop p = a ++ r) (hne : a ≠ []) : p + a.length ≤ u.size := by
  have := congrArg List.length h
  rw [List.length_drop, data_length, List.length_append] at this
  have := List.length_pos_iff.2 hne
  omega

theorem drop_more {u : ByteArray} {p : Nat} {a r : Bs} (h : u.data.toList.drop p = a ++ r) : u.data.toList.drop (p + a.length) = r := by
  rw [← List.drop_drop, h, List.drop_left]

theorem take_ev (u : ByteArray) (p : Nat) (o y : Pin) (d : Int) (s : ByteArray) (r : Bs) (hu : u.size ≤ 1000000000000000) (h : u.data.toList.drop p = s.data.toList ++ r) (hs : 0 < s.size) : spec_reader_take.f u p false o d y s = some (u, ((p + s.size : Nat) : Int), false, d) := by
  have hne : s.data.toList ≠ [] := by intro e; have := data_length s; rw [e] at this; simp at this; omega
  have h1 := drop_size h hne
  rw [data_length] at h1
  have h2 := ext_drop h
  rw [data_length] at h2
  have e1 : wrap64 ((u.size : Int) - (p : Int)) = (u.size : Int) - (p : Int) := w64 (by omega) (by omega)
  have e2 : wrap64 ((p : Int) + (s.size : Int)) = ((p + s.size : Nat) : Int) := by rw [w64 (by omega) (by omega)]; omega
  unfold spec_reader_take.f
  rw [e1, e2]
  clear e1 e2
  rw [if_neg (by omega), if_pos (by omega), if_pos (by omega), if_pos (by omega)]
  simp only [Int.toNat_natCast]
  exact if_pos (by rw [h2, ByteArray.toList_eq])

theorem val_lt_n : ∀ (n : Nat) (l : Bs), l.length = n → Digs l → val l < 10 ^ n
  | 0, l, h, _ => by
    rw [List.length_eq_zero_iff] at h
    subst h; simp [val]
  | n + 1, l, h, hd => by
    rcases List.eq_nil_or_concat l with rfl | ⟨t, c, rfl⟩
    · simp at h
    · rw [List.concat_eq_append] at *
      have h1 := val_lt_n n t (by simpa using h) (fun d hx => hd d (by simp [hx]))
      have h2 := hd c (by simp)
      rw [val_snoc, Nat.pow_succ]
      omega
theorem val_lt (l : Bs) (h : Digs l) : val l < 10 ^ l.length := val_lt_n _ l rfl h

def NoDig (r : Bs) : Prop := ∀ c t, r = c :: t → c.toNat < 48 ∨ 57 < c.toNat

theorem num_stop (k : Nat) (u : ByteArray) (p : Nat) (o y : Pin) (d v n : Int) (r : Bs) (h : u.data.toList.drop p = r) (hr : NoDig r) (hp : p ≤ u.size) (hn : 0 < n) : spec_reader_number.l0 (k + 2) v n u p false o d y = some (v, u, (p : Int), false, d) := by
  have stop : spec_reader_number.j1 (k + 1) v n false u p false o d y = some (v, u, (p : Int), false, d) := by
    rw [spec_reader_number.j1]
    rw [if_neg (by decide), if_neg (by decide)]
    have : (n == 0) = false := by simp; omega
    rw [this]
  rw [spec_reader_number.l0]
  by_cases h1 : (p : Int) < (u.size : Int)
  · rw [if_pos h1]
    by_cases h2 : n < 18
    · rw [if_pos h2, if_pos (by omega)]
      obtain ⟨c, t, hc⟩ : ∃ c t, r = c :: t := by
        cases r with
        | nil => exfalso; have := congrArg List.length h; rw [List.length_drop, data_length] at this; simp at this; omega
        | cons c t => exact ⟨c, t, rfl⟩
      rw [hc] at h
      obtain ⟨_, h4, _⟩ := drop_head h
      rcases hr c t hc with h5 | h5
      · rw [h4, if_neg (by omega)]; exact stop
      · rw [h4, if_pos (by omega)]
        have : decide ((c.toNat : Int) ≤ 57) = false := decide_eq_false (by omega)
        rw [this]; exact stop
    · rw [if_neg h2]; exact stop
  · rw [if_neg h1]; exact stop

theorem num_step (k : Nat) (u : ByteArray) (p : Nat) (o y : Pin) (d : Int) (v n : Nat) (c : UInt8) (r : Bs) (h : u.data.toList.drop p = c :: r) (hc : 48 ≤ c.toNat ∧ c.toNat ≤ 57) (hn : n < 18) (hv : v < 10 ^ n) (h0 : 0 < n → 0 < v) (hu : u.size ≤ 1000000000000000) :
    spec_reader_number.l0 (k + 2) v n u p false o d y = spec_reader_number.l0 k ((10 * v + (c.toNat - 48) : Nat) : Int) ((n + 1 : Nat) : Int) u ((p + 1 : Nat) : Int) false o d y := by
  obtain ⟨h1, h2, h3⟩ := drop_head h
  have hv2 : v < 10 ^ 17 ∨ v < 10 ^ 17 := by
    left
    exact Nat.lt_of_lt_of_le hv (Nat.pow_le_pow_right (by decide) (by omega))
  have hv3 : v < 100000000000000000 := by rcases hv2 with h | h <;> simpa using h
  have b1 : decide ((c.toNat : Int) ≤ 57) = true := decide_eq_true (by omega)
  have i1 : (p : Int) < (u.size : Int) := by omega
  have i2 : (n : Int) < 18 := by omega
  have i3 : (0 : Int) ≤ (p : Int) := by omega
  have i4 : (c.toNat : Int) ≥ 48 := by omega
  have g2 : (n : Int) > 0 → ¬ (v : Int) = 0 := fun g => by have := h0 (by omega); omega
  have e0 : ((c.toNat : Int) - 48) % 256 = ((c.toNat - 48 : Nat) : Int) := by omega
  have j2 : 10 * (v : Int) + ((c.toNat - 48 : Nat) : Int) = ((10 * v + (c.toNat - 48) : Nat) : Int) := by omega
  have j3 : (n : Int) + 1 = ((n + 1 : Nat) : Int) := by omega
  have j4 : (p : Int) + 1 = ((p + 1 : Nat) : Int) := by omega
  have e1 : wrap64 (10 * (v : Int)) = 10 * (v : Int) := w64 (by omega) (by omega)
  have e2 : wrap64 (10 * (v : Int) + ((c.toNat - 48 : Nat) : Int)) = 10 * (v : Int) + ((c.toNat - 48 : Nat) : Int) := w64 (by clear e1; omega) (by clear e1; omega)
  have e3 : wrap64 ((n : Int) + 1) = (n : Int) + 1 := w64 (by clear e1 e2; omega) (by clear e1 e2; omega)
  have e4 : wrap64 ((p : Int) + 1) = (p : Int) + 1 := w64 (by clear e1 e2 e3; omega) (by clear e1 e2 e3; omega)
  rw [j2] at e2
  rw [j3] at e3
  rw [j4] at e4
  clear hv hv2 hv3 hu h0 hc hn h1 h3
  rw [spec_reader_number.l0, h2, if_pos i1, if_pos i2, if_pos i3, if_pos i4, b1, spec_reader_number.j1, if_pos rfl, h2, e0, e1, j2, e2, j3, e3, j4, e4]
  by_cases g1 : (n : Int) > 0
  · rw [if_pos g1, if_neg (g2 g1), if_pos i3, if_pos i1]
  · rw [if_neg g1, if_pos i3, if_pos i1]

theorem num_loop (u : ByteArray) (o y : Pin) (d : Int) (r : Bs) (hr : NoDig r) (hu : u.size ≤ 1000000000000000) : ∀ (q pr : Bs) (p k : Nat), u.data.toList.drop p = q ++ r → Digs (pr ++ q) → (pr ++ q).length ≤ 18 → pr ++ q ≠ [] → (∀ a b, pr ++ q = a ++ b → a ≠ [] → b ≠ [] → 0 < val a) → p ≤ u.size → 2 * q.length + 1 < k →
    spec_reader_number.l0 k (val pr) pr.length u p false o d y = some ((val (pr ++ q) : Int), u, ((p + q.length : Nat) : Int), false, d)
  | [], pr, p, k, h, hd, hl, hne, hz, hp, hk => by
    obtain ⟨k, rfl⟩ : ∃ m, k = m + 2 := ⟨k - 2, by simp at hk; omega⟩
    rw [List.append_nil] at hne ⊢
    have := List.length_pos_iff.2 hne
    rw [num_stop k u p o y d _ _ r (by simpa using h) hr hp (by omega)]
    simp
  | c :: q, pr, p, k, h, hd, hl, hne, hz, hp, hk => by
    obtain ⟨k, rfl⟩ : ∃ m, k = m + 2 := ⟨k - 2, by simp at hk; omega⟩
    have hl2 : pr.length + (q.length + 1) ≤ 18 := by simpa using hl
    have hdp : Digs pr := fun x hx => hd x (by simp [hx])
    have h2 := drop_head (u := u) (p := p) (c := c) (r := q ++ r) (by simpa using h)
    rw [num_step k u p o y d (val pr) pr.length c (q ++ r) (by simpa using h) (hd c (by simp)) (by omega) (val_lt pr hdp) (fun hp0 => hz pr (c :: q) rfl (List.length_pos_iff.1 hp0) (by simp)) hu]
    have e1 : pr ++ c :: q = (pr ++ [c]) ++ q := by simp
    have := num_loop u o y d r hr hu q (pr ++ [c]) (p + 1) k h2.2.2 (by rw [← e1]; exact hd) (by rw [← e1]; exact hl) (by rw [← e1]; exact hne) (by rw [← e1]; exact hz) (by omega) (by simp at hk; omega)
    rw [val_snoc, List.length_append, List.length_singleton] at this
    rw [this, ← e1, List.length_cons, show p + 1 + q.length = p + (q.length + 1) by omega]

/-- a number is read back -/
theorem number_ev (u : ByteArray) (p n : Nat) (o y : Pin) (d : Int) (r : Bs) (hr : NoDig r) (hu : u.size ≤ 1000000000000000) (h : u.data.toList.drop p = Go.Lib.decDigits n ++ r) (hn : n < 10 ^ 18) (k : Nat) (hk : 40 ≤ k) :
    spec_reader_number.f k u p false o d y = some ((n : Int), u, ((p + (Go.Lib.decDigits n).length : Nat) : Int), false, d) := by
  have hl := dec_length (k := 18) (by decide) hn
  have hp := drop_size h (dec_ne n)
  have := num_loop u o y d r hr hu (Go.Lib.decDigits n) [] p k (by simpa using h) (by simpa using dec_digs n) (by simpa using hl) (by simpa using dec_ne n) (fun a b e ha hb => dec_prefix n a b (by simpa using e) ha hb) (by omega) (by omega)
  unfold spec_reader_number.f
  rw [List.nil_append, val_dec] at this
  exact this

/-- a span is read back -/
theorem span_ev (u : ByteArray) (p f n : Nat) (o y : Pin) (d : Int) (r : Bs) (hu : u.size ≤ 1000000000000000) (h : u.data.toList.drop p = rSpan f n ++ 32 :: r) (hf : f < 10 ^ 18) (hn : n < 10 ^ 18) (h0 : n = 0 → f = 1) (k : Nat) (hk : 40 ≤ k) :
    ∃ f', spec_reader_span.f k u p false o d y = some (f', (n : Int), u, ((p + (rSpan f n).length : Nat) : Int), false, d) ∧ f' = (if n = 0 then 0 else (f : Int)) := by
  have nd32 : ∀ t, NoDig (32 :: t) := fun t c t' e => by injection e with e1 _; subst e1; left; decide
  have nd44 : ∀ t, NoDig (44 :: t) := fun t c t' e => by injection e with e1 _; subst e1; left; decide
  unfold rSpan at h ⊢
  by_cases h1 : 1 < n
  · rw [if_pos h1] at h ⊢
    rw [List.append_assoc] at h
    have a1 := number_ev u p f o y d _ (nd44 _) hu h hf k hk
    have h2 := drop_more h
    obtain ⟨b1, b2, b3⟩ := drop_head h2
    have a2 := number_ev u (p + (Go.Lib.decDigits f).length + 1) n o y d _ (nd32 r) hu b3 hn k hk
    refine ⟨f, ?_, by rw [if_neg (by omega)]⟩
    have e1 : wrap64 (((p + (Go.Lib.decDigits f).length : Nat) : Int) + 1) = ((p + (Go.Lib.decDigits f).length + 1 : Nat) : Int) := by rw [w64 (by omega) (by omega)]; omega
    unfold spec_reader_span.f
    rw [a1]
    simp only [Option.bind_some]
    rw [if_pos (by omega), if_pos (by omega), b2, if_pos (by decide), e1, a2]
    show some _ = some _
    congr 5
    simp only [List.length_append, List.length_cons]
    omega
  · rw [if_neg h1] at h ⊢
    by_cases h2 : f = 1 ∧ n = 0
    · rw [if_pos h2] at h ⊢
      obtain ⟨_, rfl⟩ := h2
      have d0 : Go.Lib.decDigits 0 = [48] := by rw [decDigits_small (by decide)]; rfl
      have a1 := number_ev u p 0 o y d (44 :: ([48] ++ 32 :: r)) (nd44 _) hu (by rw [d0]; exact h) (by decide) k hk
      rw [d0] at a1
      have h3 : u.data.toList.drop (p + 1) = 44 :: ([48] ++ 32 :: r) := (drop_head (c := 48) (r := 44 :: ([48] ++ 32 :: r)) h).2.2
      obtain ⟨b1, b2, b3⟩ := drop_head h3
      have a2 := number_ev u (p + 1 + 1) 0 o y d _ (nd32 r) hu (by rw [d0]; exact b3) (by decide) k hk
      rw [d0] at a2
      refine ⟨0, ?_, by rw [if_pos rfl]⟩
      have e1 : wrap64 (((p + [(48 : UInt8)].length : Nat) : Int) + 1) = ((p + 1 + 1 : Nat) : Int) := by rw [w64 (by simp; omega) (by simp; omega)]; simp
      unfold spec_reader_span.f
      rw [a1]
      simp only [Option.bind_some]
      rw [if_pos (by simp; omega), if_pos (by omega), show ((p + [(48 : UInt8)].length : Nat) : Int) = ((p + 1 : Nat) : Int) from rfl, b2, if_pos (by decide), show wrap64 (((p + 1 : Nat) : Int) + 1) = ((p + 1 + 1 : Nat) : Int) from e1, a2]
      rfl
    · rw [if_neg h2] at h ⊢
      have hn1 : n = 1 := by
        rcases Nat.eq_zero_or_pos n with h3 | h3
        · exact absurd ⟨h0 h3, h3⟩ h2
        · omega
      subst hn1
      have a1 := number_ev u p f o y d _ (nd32 r) hu h hf k hk
      have h3 := drop_more h
      obtain ⟨b1, b2, b3⟩ := drop_head h3
      refine ⟨f, ?_, by rw [if_neg (by decide)]⟩
      unfold spec_reader_span.f
      rw [a1]
      simp only [Option.bind_some]
      rw [if_pos (by omega), if_pos (by omega), b2, if_neg (by decide)]
      rfl

/-- the first line of a hunk is read back -/
theorem header_ev (u : ByteArray) (p : Nat) (o y : Pin) (d : Int) (h : Hk) (r : Bs) (hu : u.size ≤ 1000000000000000) (ht : u.data.toList.drop p = rHead h ++ r) (hf : h.f < 10 ^ 18) (hf2 : h.t < 10 ^ 18) (hn : fromC h.its < 10 ^ 18) (hm : toC h.its < 10 ^ 18) (h0 : fromC h.its = 0 → h.f = 1) (h1 : toC h.its = 0 → h.t = 1) (k : Nat) (hk : 40 ≤ k) :
    ∃ f' t', spec_reader_header.f k u p false o d y = some (f', (fromC h.its : Int), t', (toC h.its : Int), 0, 0, u, ((p + (rHead h).length : Nat) : Int), false, d) ∧ f' = (if fromC h.its = 0 then 0 else (h.f : Int)) := by
  unfold rHead at ht ⊢
  simp only [List.append_assoc] at ht
  have t1 := take_ev u p o y d ⟨#[64, 64, 32, 45]⟩ _ hu ht (by decide)
  have s1 := drop_more ht
  have s1' : u.data.toList.drop (p + 4) = rSpan h.f (fromC h.its) ++ 32 :: (43 :: (rSpan h.t (toC h.its) ++ ([32, 64, 64, 10] ++ r))) := s1
  obtain ⟨f', a1, a2⟩ := span_ev u (p + 4) h.f (fromC h.its) o y d _ hu s1' hf hn h0 k hk
  have s2 := drop_more s1'
  have s2' : u.data.toList.drop (p + 4 + (rSpan h.f (fromC h.its)).length) = (⟨#[32, 43]⟩ : ByteArray).data.toList ++ (rSpan h.t (toC h.its) ++ ([32, 64, 64, 10] ++ r)) := s2
  have t2 := take_ev u _ o y d ⟨#[32, 43]⟩ _ hu s2' (by decide)
  have s3 := drop_more s2'
  have s3' : u.data.toList.drop (p + 4 + (rSpan h.f (fromC h.its)).length + 2) = rSpan h.t (toC h.its) ++ 32 :: ([64, 64, 10] ++ r) := s3
  obtain ⟨t', c1, _⟩ := span_ev u _ h.t (toC h.its) o y d _ hu s3' hf2 hm h1 k hk
  have s4 := drop_more s3'
  have s4' : u.data.toList.drop (p + 4 + (rSpan h.f (fromC h.its)).length + 2 + (rSpan h.t (toC h.its)).length) = (⟨#[32, 64, 64, 10]⟩ : ByteArray).data.toList ++ r := s4
  have t3 := take_ev u _ o y d ⟨#[32, 64, 64, 10]⟩ _ hu s4' (by decide)
  refine ⟨f', t', ?_, a2⟩
  unfold spec_reader_header.f
  rw [t1]
  simp only [Option.bind_some]
  rw [show ((p + (⟨#[64, 64, 32, 45]⟩ : ByteArray).size : Nat) : Int) = ((p + 4 : Nat) : Int) from rfl, a1]
  simp only [Option.bind_some]
  rw [t2]
  simp only [Option.bind_some]
  rw [show ((p + 4 + (rSpan h.f (fromC h.its)).length + (⟨#[32, 43]⟩ : ByteArray).size : Nat) : Int) = ((p + 4 + (rSpan h.f (fromC h.its)).length + 2 : Nat) : Int) from rfl, c1]
  simp only [Option.bind_some]
  rw [t3]
  show some _ = some _
  have : p + 4 + (rSpan h.f (fromC h.its)).length + 2 + (rSpan h.t (toC h.its)).length + (⟨#[32, 64, 64, 10]⟩ : ByteArray).size = p + ([64, 64, 32, 45] ++ rSpan h.f (fromC h.its) ++ [32, 43] ++ rSpan h.t (toC h.its) ++ [32, 64, 64, 10]).length := by
    simp only [List.length_append, List.length_cons, List.length_nil, show (⟨#[32, 64, 64, 10]⟩ : ByteArray).size = 4 from rfl]
    omega
  rw [this]

theorem ext_mk {u : ByteArray} {p : Nat} {a r : Bs} (h : u.data.toList.drop p = a ++ r) : u.extract p (p + a.length) = ⟨a.toArray⟩ := by
  have := ext_drop h
  rw [ByteArray.toList_eq] at this
  exact ByteArray.ext (by rw [← Array.toArray_toList (xs := (u.extract p (p + a.length)).data), this])

theorem line_loop (u : ByteArray) (p0 : Nat) (o y : Pin) (d : Int) (hu : u.size ≤ 1000000000000000) : ∀ (l r : Bs) (p k : Nat), u.data.toList.drop p = l ++ 10 :: r → NoNl l → p0 ≤ p → l.length < k →
    spec_reader_line.l0 k p u p0 false o d y = some (u.extract p0 (p + l.length), u, ((p + l.length + 1 : Nat) : Int), false, d)
  | [], r, p, k, h, hl, hp, hk => by
    obtain ⟨k, rfl⟩ : ∃ m, k = m + 1 := ⟨k - 1, by simp at hk; omega⟩
    obtain ⟨h1, h2, h3⟩ := drop_head (c := 10) (r := r) (by simpa using h)
    have i1 : (p : Int) < (u.size : Int) := by omega
    have i2 : (0 : Int) ≤ (p : Int) := by omega
    have i3 : (0 : Int) ≤ (p0 : Int) := by omega
    have i4 : (p0 : Int) ≤ (p : Int) := by omega
    have i5 : (p : Int) ≤ (u.size : Int) := by omega
    have j4 : (p : Int) + 1 = ((p + 1 : Nat) : Int) := by omega
    have e4 : wrap64 ((p : Int) + 1) = (p : Int) + 1 := w64 (by omega) (by omega)
    rw [spec_reader_line.l0, if_pos i1, if_pos i2, h2, if_pos (by decide), if_pos i3, if_pos i4, if_pos i5, e4, j4]
    simp only [Int.toNat_natCast, List.length_nil, Nat.add_zero]
  | c :: l, r, p, k, h, hl, hp, hk => by
    obtain ⟨k, rfl⟩ : ∃ m, k = m + 1 := ⟨k - 1, by simp at hk; omega⟩
    obtain ⟨h1, h2, h3⟩ := drop_head (c := c) (r := l ++ 10 :: r) (by simpa using h)
    have hc : ¬ (c.toNat : Int) = 10 := by
      intro he
      exact hl c (by simp) (UInt8.toNat_inj.1 (by have : c.toNat = 10 := by omega
                                                  rw [this]; rfl))
    have ih := line_loop u p0 o y d hu l r (p + 1) k h3 (fun x hx => hl x (by simp [hx])) (by omega) (by simp at hk; omega)
    have i1 : (p : Int) < (u.size : Int) := by omega
    have i2 : (0 : Int) ≤ (p : Int) := by omega
    have j4 : (p : Int) + 1 = ((p + 1 : Nat) : Int) := by omega
    have e4 : wrap64 ((p : Int) + 1) = (p : Int) + 1 := w64 (by omega) (by omega)
    rw [spec_reader_line.l0, if_pos i1, if_pos i2, h2, if_neg hc, e4, j4, ih, List.length_cons, show p + 1 + l.length = p + (l.length + 1) by clear e4; omega]

/-- a line is read -/
theorem line_ev (u : ByteArray) (p : Nat) (o y : Pin) (d : Int) (l r : Bs) (hu : u.size ≤ 1000000000000000) (h : u.data.toList.drop p = l ++ 10 :: r) (hl : NoNl l) (k : Nat) (hk : l.length < k) :
    spec_reader_line.f k u p false o d y = some (⟨l.toArray⟩, u, ((p + l.length + 1 : Nat) : Int), false, d) := by
  unfold spec_reader_line.f
  rw [line_loop u p o y d hu l r p k h hl (Nat.le_refl _) hk, ext_mk h]

/-- .. and whether it ends -/
theorem ended_no (u : ByteArray) (p : Nat) (o y : Pin) (d : Int) (s : ByteArray) (r : Bs) (hu : u.size ≤ 1000000000000000) (h : u.data.toList.drop p = noEnd ++ r) : spec_reader_ended.f u p false o d y s = some (s, u, ((p + 28 : Nat) : Int), false, d) := by
  have hl28 : noEnd.length = 28 := rfl
  have hne : noEnd ≠ [] := by unfold noEnd; exact List.cons_ne_nil _ _
  have h1' := drop_size h hne
  have h2 := ext_drop h
  rw [hl28] at h1' h2
  have i1 : (u.size : Int) - (p : Int) ≥ 28 := by omega
  have i2 : (0 : Int) ≤ (p : Int) := by omega
  have i3 : (p : Int) ≤ (p : Int) + 28 := by omega
  have i4 : (p : Int) + 28 ≤ (u.size : Int) := by omega
  have j4 : ((p : Int) + 28).toNat = p + 28 := by omega
  have j5 : (p : Int) + 28 = ((p + 28 : Nat) : Int) := by omega
  have e1 : wrap64 ((u.size : Int) - (p : Int)) = (u.size : Int) - (p : Int) := w64 (by omega) (by omega)
  have e2 : wrap64 ((p : Int) + 28) = (p : Int) + 28 := w64 (by clear e1; omega) (by clear e1; omega)
  unfold spec_reader_ended.f
  rw [e1, e2, if_pos i1, if_pos i2, if_pos i3, if_pos i4, j4, Int.toNat_natCast, j5]
  exact if_pos h2

theorem ended_yes (u : ByteArray) (p : Nat) (o y : Pin) (d : Int) (s : ByteArray) (r : Bs) (hu : u.size ≤ 1000000000000000) (hp : p ≤ u.size) (h : u.data.toList.drop p = r) (hr : ∀ c t, r = c :: t → c ≠ 92) (hs : s.size ≤ 1000000000000000) : spec_reader_ended.f u p false o d y s = some (s ++ ⟨#[10]⟩, u, (p : Int), false, d) := by
  have i5 : s.size + 1 ≤ 9223372036854775807 := by omega
  have e1 : wrap64 ((u.size : Int) - (p : Int)) = (u.size : Int) - (p : Int) := w64 (by omega) (by omega)
  unfold spec_reader_ended.f
  rw [e1]
  by_cases i1 : (u.size : Int) - (p : Int) ≥ 28
  · have i2 : (0 : Int) ≤ (p : Int) := by clear e1; omega
    have i3 : (p : Int) ≤ (p : Int) + 28 := by clear e1; omega
    have i4 : (p : Int) + 28 ≤ (u.size : Int) := by clear e1; omega
    have j4 : ((p : Int) + 28).toNat = p + 28 := by clear e1; omega
    have e2 : wrap64 ((p : Int) + 28) = (p : Int) + 28 := w64 (by clear e1; omega) (by clear e1; omega)
    have hne : ¬ (u.extract p (p + 28)).toList = noEnd := by
      intro he
      rw [ByteArray.toList_eq, ByteArray.data_extract, Array.toList_extract, List.extract_eq_take_drop, h] at he
      cases r with
      | nil => simp [noEnd] at he
      | cons c t =>
        rw [show p + 28 - p = 28 by clear e1 e2; omega] at he
        have : c = 92 := by
          have := congrArg List.head? he
          simpa [noEnd] using this
        exact hr c t rfl this
    rw [e2, if_pos i1, if_pos i2, if_pos i3, if_pos i4, j4, Int.toNat_natCast]
    exact (if_neg hne).trans (if_pos i5)
  · rw [if_neg i1, if_pos i5]
end Go.Proofs.YtonajgipkpnpoaaDoor.Rd
/- The reader's state, and what a hunk's lines are read as. -/
namespace Go.Proofs.YtonajgipkpnpoaaDoor.Un
open Go.RowKit Go.Proofs.YtonajgipkpnpoaaDoorW.PrintWords Go.Proofs.YtonajgipkpnpoaaDoorW.PrintLast Go.Proofs.YtonajgipkpnpoaaDoorW.PrintMore Go.Uni
open Go.Proofs.YtonajgipkpnpoaaDoor.Rd (Pin IsS53)
set_option linter.unusedVariables false
set_option linter.unusedSimpArgs false

/-- the reader at block g: its text, where it stands, how many lines of the first text are done, what it has put out -/
structure RS (w0 w : World) (g : Nat) (U : ByteArray) (o : Pin) (p d : Nat) (acc : List Bs) (y : Pin) : Prop where
  is : IsS53 w0 w g U (p : Int) false o (d : Int) y
  bl : Below w0.heap.size w0 w
  yn : y.n = acc.length
  out : w.ownsRow w0.heap.size 9 1 (.slice y.A y.n y.c) acc.length (rowS acc)

theorem RS.blk {w0 w : World} {g : Nat} {U : ByteArray} {o : Pin} {p d : Nat} {acc : List Bs} {y : Pin} (h : RS w0 w g U o p d acc y) : w.heap[g]? = some (.cells #[.string U, .int .i64 (p : Int), .bool false, .slice o.A o.n o.c, .int .i64 (d : Int), .slice y.A y.n y.c] 53 (0, 0)) ∧ w0.heap.size ≤ g := by
  obtain ⟨A3, c3, A5, c5, hb, hg, ⟨rfl, rfl⟩, ⟨rfl, rfl⟩⟩ := h.is
  exact ⟨hb, hg⟩

theorem RS.mk' {w0 w : World} {g : Nat} {U : ByteArray} {o : Pin} {p d : Nat} {acc : List Bs} {y : Pin} (hb : w.heap[g]? = some (.cells #[.string U, .int .i64 (p : Int), .bool false, .slice o.A o.n o.c, .int .i64 (d : Int), .slice y.A y.n y.c] 53 (0, 0))) (hg : w0.heap.size ≤ g) (bl : Below w0.heap.size w0 w) (yn : y.n = acc.length) (out : w.ownsRow w0.heap.size 9 1 (.slice y.A y.n y.c) acc.length (rowS acc)) : RS w0 w g U o p d acc y :=
  ⟨⟨o.A, o.c, y.A, y.c, hb, hg, ⟨rfl, rfl⟩, ⟨rfl, rfl⟩⟩, bl, yn, out⟩

/-- a call of the reader's own keeps all but its block -/
theorem keep_fr {w w' : World} {g : Nat} {B : Nat} {w0 : World} (hk : KeepBut w w' g none) (h0 : Below w0.heap.size w0 w) (h1 : Below w0.heap.size w0 w') : Fr w w' (fun b => b = g) :=
  ⟨h1.os.trans h0.os.symm, h1.tape.trans h0.tape.symm, h1.output.trans h0.output.symm, hk.1, fun k hlt hne => hk.2 k hlt hne (by simp)⟩

theorem RS.call {w0 w w' : World} {g : Nat} {U : ByteArray} {o : Pin} {p p' d : Nat} {acc : List Bs} {y : Pin} (h : RS w0 w g U o p d acc y) (h1 : IsS53 w0 w' g U (p' : Int) false o (d : Int) y) (h2 : Below w0.heap.size w0 w') (h3 : KeepBut w w' g none) : RS w0 w' g U o p' d acc y ∧ Fr w w' (fun b => b = g) := by
  have hf := keep_fr (B := 0) h3 h.bl h2
  refine ⟨⟨h1, h2, h.yn, own_fr h.out hf ?_⟩, hf⟩
  rintro b hb rfl
  exact own_ne_blk h.out h.blk.1 (by decide) hb

/-- a line of a hunk, taken apart -/
theorem rIt_parts (i : It) (hl : Line i.l) : ∃ b tl, rIt i = (sign i.k :: b) ++ 10 :: tl ∧ NoNl (sign i.k :: b) ∧ ((tl = [] ∧ i.l = b ++ [10]) ∨ (tl = noEnd ∧ i.l = b)) := by
  have hs : sign i.k ≠ 10 := by unfold sign; split <;> (try split) <;> decide
  unfold rIt
  by_cases h : EndNl i.l
  · obtain ⟨h1, h2⟩ := hl
    have e : i.l = i.l.dropLast ++ [10] := by
      have h3 := List.dropLast_concat_getLast h1
      unfold EndNl at h
      rw [List.getLast?_eq_some_getLast h1] at h
      rw [Option.some.inj h] at h3
      exact h3.symm
    refine ⟨i.l.dropLast, [], ?_, ?_, Or.inl ⟨rfl, e⟩⟩
    · rw [if_pos h, List.append_nil]
      conv => lhs; rw [e]
      try simp
    · intro c hc
      rcases List.mem_cons.1 hc with rfl | hc
      · exact hs
      · exact h2 c hc
  · obtain ⟨h1, h2⟩ := hl
    refine ⟨i.l, noEnd, by rw [if_neg h], ?_, Or.inr ⟨rfl, rfl⟩⟩
    intro c hc
    rcases List.mem_cons.1 hc with rfl | hc
    · exact hs
    · rw [← List.dropLast_concat_getLast h1] at hc
      rcases List.mem_append.1 hc with hc | hc
      · exact h2 c hc
      · intro he
        simp at hc
        apply h
        unfold EndNl
        rw [List.getLast?_eq_some_getLast h1, ← hc, he]

theorem ended_both (u : ByteArray) (p : Nat) (o y : Pin) (d : Int) (b tl l r : Bs) (hu : u.size ≤ 1000000000000000) (hp : p ≤ u.size) (h : u.data.toList.drop p = tl ++ r) (hr : ∀ c t, r = c :: t → c ≠ 92) (hb : b.length ≤ 1000000000000000) (hl : (tl = [] ∧ l = b ++ [10]) ∨ (tl = noEnd ∧ l = b)) :
    Rd.spec_reader_ended.f u p false o d y (mkS b) = some (mkS l, u, ((p + tl.length : Nat) : Int), false, d) := by
  rcases hl with ⟨rfl, rfl⟩ | ⟨rfl, rfl⟩
  · rw [Rd.ended_yes u p o y d (mkS b) r hu hp (by simpa using h) hr (by rw [mkS_size]; exact hb)]
    have : mkS b ++ ⟨#[10]⟩ = mkS (b ++ [10]) := by
      apply ByteArray.ext
      simp [mkS]
    rw [this]
    simp
  · rw [Rd.ended_no u p o y d (mkS l) r hu h]
    rfl
end Go.Proofs.YtonajgipkpnpoaaDoor.Un
/- (*reader).body: the lines of a hunk are read. -/
namespace Go.Proofs.YtonajgipkpnpoaaDoor.Un
open Go.RowKit Go.Proofs.YtonajgipkpnpoaaDoorW.PrintWords Go.Proofs.YtonajgipkpnpoaaDoorW.PrintLast Go.Proofs.YtonajgipkpnpoaaDoorW.PrintMore Go.Uni
open Go.Proofs.YtonajgipkpnpoaaDoor.Rd (Pin IsS53)
set_option linter.unusedVariables false
set_option linter.unusedSimpArgs false

def pv (y : Pin) : Value := .slice y.A y.n y.c

/-- a hunk as it is read: the numbers of its lines, its lines -/
structure HkR where
  f : Int
  t : Int
  its : List It

/-- the hunk read at block gh -/
def hkB (h : HkR) (a b : Nat) : Array Value := #[.int .i64 h.f, .int .i64 (fromC h.its : Int), .int .i64 h.t, .int .i64 (toC h.its : Int), .int .i64 (a : Int), .int .i64 (b : Int)]

/-- body under way -/
structure Bo (w0 W wr : World) (g gh : Nat) (U : ByteArray) (o y0 y : Pin) (p d : Nat) (acc : List Bs) (h : HkR) (a b : Nat) : Prop where
  rs : RS w0 wr g U o p d acc y
  hb : wr.heap[gh]? = some (.cells (hkB h a b) 56 (0, 0))
  ge : w0.heap.size ≤ gh
  fr : Fr W wr (fun k => k = g ∨ k = gh ∨ some k = (pv y0).ownBlock)
  ow : (pv y).ownBlock = (pv y0).ownBlock ∨ ∃ k, (pv y).ownBlock = some k ∧ W.heap.size ≤ k

variable {w0 W wr : World} {g gh : Nat} {U : ByteArray} {o y0 y : Pin} {p d : Nat} {acc : List Bs} {h : HkR} {a b : Nat}

theorem Bo.ne (k : Bo w0 W wr g gh U o y0 y p d acc h a b) : gh ≠ g := blk_ne k.hb k.rs.blk.1 (by decide)

theorem Bo.call (k : Bo w0 W wr g gh U o y0 y p d acc h a b) {w' : World} {p' : Nat} (h1 : IsS53 w0 w' g U (p' : Int) false o (d : Int) y) (h2 : Below w0.heap.size w0 w') (h3 : KeepBut wr w' g none) : Bo w0 W w' g gh U o y0 y p' d acc h a b := by
  obtain ⟨e1, e2⟩ := k.rs.call h1 h2 h3
  exact ⟨e1, e2.heap k.hb k.ne, k.ge, Fr.then_ k.fr e2 (fun x hx => Or.inl (Or.inl hx)), k.ow⟩

theorem Bo.keep (k : Bo w0 W wr g gh U o y0 y p d acc h a b) {w' : World} (hf : Fr wr w' (fun _ => False)) : Bo w0 W w' g gh U o y0 y p d acc h a b := by
  refine ⟨?_, hf.heap k.hb (fun x => x), k.ge, Fr.then_ k.fr hf (fun _ x => x.elim), k.ow⟩
  obtain ⟨hb, hg⟩ := k.rs.blk
  exact RS.mk' (hf.heap hb (fun x => x)) hg (k.rs.bl.trans (hf.below k.rs.bl.size (fun _ x => x.elim))) k.rs.yn (own_fr k.rs.out hf (fun _ _ x => x))

/-- a store into the hunk -/
theorem Bo.setH (k : Bo w0 W wr g gh U o y0 y p d acc h a b) (i : Nat) (u : Value) {a' b' : Nat} (e : (hkB h a b).setIfInBounds i u = hkB h a' b') : Bo w0 W (wr.setCell ⟨gh, i, none⟩ u) g gh U o y0 y p d acc h a' b' := by
  have hf := Fr.set_ wr ⟨gh, i, none⟩ u
  obtain ⟨hb, hg⟩ := k.rs.blk
  refine ⟨RS.mk' (hf.heap hb (fun x => k.ne x.symm)) hg (k.rs.bl.trans (hf.below k.rs.bl.size (fun x hx => by rw [hx]; exact k.ge))) k.rs.yn (own_fr k.rs.out hf ?_), ?_, k.ge, Fr.then_ k.fr hf (fun x hx => Or.inl (Or.inr (Or.inl hx))), k.ow⟩
  · rintro x hx rfl
    exact own_ne_blk k.rs.out k.hb (by decide) hx
  · have := blk_set k.hb i u
    rwa [e] at this

/-- a line of the first text is done -/
theorem Bo.done (k : Bo w0 W wr g gh U o y0 y p d acc h a b) (d' : Nat) : Bo w0 W (wr.setCell ⟨g, 4, none⟩ (.int .i64 (d' : Int))) g gh U o y0 y p d' acc h a b := by
  have hf := Fr.set_ wr ⟨g, 4, none⟩ (.int .i64 (d' : Int))
  obtain ⟨hb, hg⟩ := k.rs.blk
  refine ⟨RS.mk' (by simpa using blk_set hb 4 (.int .i64 (d' : Int))) hg (k.rs.bl.trans (hf.below k.rs.bl.size (fun x hx => by rw [hx]; exact hg))) k.rs.yn (own_fr k.rs.out hf ?_), hf.heap k.hb k.ne, k.ge, Fr.then_ k.fr hf (fun x hx => Or.inl (Or.inl hx)), k.ow⟩
  rintro x hx rfl
  exact own_ne_blk k.rs.out hb (by decide) hx

/-- .. stays malformed no more than it was -/
theorem Bo.bad (k : Bo w0 W wr g gh U o y0 y p d acc h a b) : Bo w0 W (wr.setCell ⟨g, 2, none⟩ (.bool false)) g gh U o y0 y p d acc h a b := by
  have hf := Fr.set_ wr ⟨g, 2, none⟩ (.bool false)
  obtain ⟨hb, hg⟩ := k.rs.blk
  refine ⟨RS.mk' (by simpa using blk_set hb 2 (.bool false)) hg (k.rs.bl.trans (hf.below k.rs.bl.size (fun x hx => by rw [hx]; exact hg))) k.rs.yn (own_fr k.rs.out hf ?_), hf.heap k.hb k.ne, k.ge, Fr.then_ k.fr hf (fun x hx => Or.inl (Or.inl hx)), k.ow⟩
  rintro x hx rfl
  exact own_ne_blk k.rs.out hb (by decide) hx

/-- a line is put out -/
theorem Bo.push (k : Bo w0 W wr g gh U o y0 y p d acc h a b) (hW : w0.heap.size ≤ W.heap.size) {ob : Obj} {w1 : World} {gg cap n : Nat} (hn : n = acc.length + 1) {l : Bs} (hg1 : (wr.alloc ob).drew.grownBy w1 (pv y).ownBlock) (hown : w1.ownsRow w0.heap.size 9 1 (.slice (some ⟨gg, 0, none⟩) n cap) n (rowS acc ++ [.string (mkS l)])) (hat : (pv y).ownBlock = some gg ∨ gg = wr.heap.size + 1) :
    Bo w0 W (w1.setCell ⟨g, 5, none⟩ (.slice (some ⟨gg, 0, none⟩) n cap)) g gh U o y0 ⟨some ⟨gg, 0, none⟩, n, cap⟩ p d (acc ++ [l]) h a b := by
  subst hn
  obtain ⟨hb, hg⟩ := k.rs.blk
  have hneg : (pv y).ownBlock ≠ some g := own_ne_blk k.rs.out hb (by decide)
  have hneh : (pv y).ownBlock ≠ some gh := own_ne_blk k.rs.out k.hb (by decide)
  have hb1 : w1.heap[g]? = _ := (blk_after hg1 (Array.getElem?_eq_some_iff.1 hb).1 hneg).trans hb
  have hh1 : w1.heap[gh]? = _ := (blk_after hg1 (Array.getElem?_eq_some_iff.1 k.hb).1 hneh).trans k.hb
  have hf1 : Fr wr w1 (fun x => some x = (pv y).ownBlock) := Fr.then_ (Fr.alloc_ wr ob _) (Fr.of_drew (Fr.of_grown hg1)) (fun x hx => Or.inl hx)
  have hf := Fr.then_ (S := fun x => some x = (pv y).ownBlock ∨ x = g) (hf1.mono (fun x hx => Or.inl hx)) (Fr.set_ w1 ⟨g, 5, none⟩ (.slice (some ⟨gg, 0, none⟩) (acc.length + 1) cap)) (fun x hx => Or.inl (Or.inr hx))
  have hge : ∀ x, (pv y).ownBlock = some x → w0.heap.size ≤ x := by
    intro x hx
    rcases k.rs.out.2 with ⟨h0, _⟩ | ⟨g1, c1, cur, h1, h2, _⟩
    · unfold pv at hx; rw [h0] at hx; cases hx
    · unfold pv at hx; rw [h1] at hx
      have : g1 = x := by simpa [Value.ownBlock] using hx
      omega
  have hne5 : (Value.slice (some ⟨gg, 0, none⟩) (acc.length + 1) cap).ownBlock ≠ some g := own_ne_blk hown hb1 (by decide)
  refine ⟨RS.mk' (by simpa using blk_set hb1 5 (.slice (some ⟨gg, 0, none⟩) (acc.length + 1) cap)) hg ?_ (by simp) ?_, (Fr.set_ w1 ⟨g, 5, none⟩ _).heap hh1 k.ne, k.ge, Fr.then_ k.fr hf ?_, ?_⟩
  · refine k.rs.bl.trans (hf.below k.rs.bl.size ?_)
    rintro x (hx | rfl)
    · exact hge x hx.symm
    · exact hg
  · rw [List.length_append, rowS_append]
    exact own_setCell hown (p := ⟨g, 5, none⟩) (fun he => hne5 he.symm) _
  · rintro x (hx | rfl)
    · rcases k.ow with h1 | ⟨q, h1, h2⟩
      · rw [h1] at hx; exact Or.inl (Or.inr (Or.inr hx))
      · rw [h1] at hx; injection hx with hx; exact Or.inr (by omega)
    · exact Or.inl (Or.inl rfl)
  · exact ow_push (v := pv y0) (v' := pv y) k.fr.size k.ow hat

/-- the lines of the first text stand as they stood -/
theorem Bo.old (k : Bo w0 W wr g gh U o y0 y p d acc h a b) {L : List Bs} (hO : w0.ownsRow 0 9 1 (pv o) L.length (rowS L)) : wr.ownsRow 0 9 1 (pv o) L.length (rowS L) := pw_own_below hO k.rs.bl
end Go.Proofs.YtonajgipkpnpoaaDoor.Un
