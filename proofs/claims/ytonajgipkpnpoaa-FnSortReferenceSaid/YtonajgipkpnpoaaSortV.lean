/- The cells of a row of edits when one is put in its place: append, copy, store. -/
import Derived.Test.YtonajgipkpnpoaaSortU
import Derived.Laws.CopyOwn
namespace Go.Proofs.Ytonajgipkpnpoaa.SortU
open Go.Proofs.Ytonajgipkpnpoaa.SortM

def flat (xs : List E) : List Value := xs.flatMap enc

theorem flat_nil : flat [] = [] := rfl
theorem flat_cons (x : E) (xs : List E) : flat (x :: xs) = enc x ++ flat xs := rfl
theorem flat_append (xs ys : List E) : flat (xs ++ ys) = flat xs ++ flat ys := List.flatMap_append
theorem flat_length (xs : List E) : (flat xs).length = xs.length * 3 := by
  induction xs with
  | nil => rfl
  | cons x xs ih => rw [flat_cons, List.length_append, ih, List.length_cons, enc_len]; omega

theorem flat_get (xs : List E) : ∀ (j : Nat) (p : E), xs[j]? = some p → ((flat xs).drop (j * 3)).take 3 = enc p := by
  induction xs with
  | nil => intro j p h; simp at h
  | cons x xs ih =>
    intro j p h
    cases j with
    | zero => simp at h; subst h; rw [flat_cons]; simp [enc]
    | succ j =>
      rw [List.getElem?_cons_succ] at h
      rw [flat_cons, show (j + 1) * 3 = (enc x).length + j * 3 by rw [enc_len]; omega, ← List.drop_drop, List.drop_left]
      exact ih j p h

theorem flat_of (xs : List E) : ∀ (cs : List Value), cs.length = xs.length * 3 → (∀ (j : Nat) (p : E), xs[j]? = some p → (cs.drop (j * 3)).take 3 = enc p) → cs = flat xs := by
  induction xs with
  | nil => intro cs h _; exact List.eq_nil_of_length_eq_zero (by simpa using h)
  | cons x xs ih =>
    intro cs h hg
    have h0 := hg 0 x rfl
    simp at h0
    have hd : cs = cs.take 3 ++ cs.drop 3 := (List.take_append_drop 3 cs).symm
    rw [hd, flat_cons, h0]
    congr 1
    refine ih _ (by simp at h ⊢; omega) fun j p hj => ?_
    have := hg (j + 1) p (by rw [List.getElem?_cons_succ]; exact hj)
    rwa [List.drop_drop, show 3 + j * 3 = (j + 1) * 3 by omega]

theorem insAt_yes (l : List E) (e : E) (m : Nat) (h0 : 0 < m) (h : lt e (l[m - 1]?.getD default) = true) : insAt l e m = insAt l e (m - 1) := by
  obtain ⟨q, rfl⟩ : ∃ q, m = q + 1 := ⟨m - 1, by omega⟩
  rw [show q + 1 - 1 = q by omega] at h ⊢
  rw [insAt, if_pos h]

theorem insAt_no (l : List E) (e : E) (m : Nat) (h0 : 0 < m) (h : lt e (l[m - 1]?.getD default) = false) : insAt l e m = m := by
  obtain ⟨q, rfl⟩ : ∃ q, m = q + 1 := ⟨m - 1, by omega⟩
  rw [show q + 1 - 1 = q by omega] at h
  rw [insAt, if_neg (by rw [h]; simp)]

theorem set3 (A B : List Value) (x0 x1 x2 y0 y1 y2 : Value) (i : Nat) (hi : A.length = i) :
    (((A ++ x0 :: x1 :: x2 :: B).set i y0).set (i + 1) y1).set (i + 2) y2 = A ++ y0 :: y1 :: y2 :: B := by
  subst hi
  rw [List.set_append_right _ _ (Nat.le_refl _), Nat.sub_self, List.set_cons_zero, List.set_append_right _ _ (by omega), show A.length + 1 - A.length = 1 by omega, List.set_cons_succ, List.set_cons_zero,
    List.set_append_right _ _ (by omega), show A.length + 2 - A.length = 2 by omega]
  rfl

/-- The row behind append(list, e), copy(list[m+1:], list[m:]), list[m] = e. -/
theorem put_row (cur : List Value) (es : List E) (e : E) (m : Nat) (hm : m ≤ es.length) (ht : cur.take ((es.length + 1) * 3) = flat (es ++ [e])) :
    ((((splice cur ((m + 1) * 3) (flat (es.drop m))).set (m * 3) (.int .i64 e.a)).set (m * 3 + 1) (.int .i64 e.b)).set (m * 3 + 2) (.string e.s)).take ((es.length + 1) * 3) = flat (es.take m ++ e :: es.drop m) := by
  obtain ⟨tl, htl⟩ : ∃ tl, cur = flat (es ++ [e]) ++ tl := ⟨cur.drop ((es.length + 1) * 3), by rw [← ht, List.take_append_drop]⟩
  have hL : (flat (es ++ [e])).length = (es.length + 1) * 3 := by rw [flat_length]; simp
  have hA : (flat (es.take m)).length = m * 3 := by rw [flat_length]; simp; omega
  have hD : (flat (es.drop m)).length = (es.length - m) * 3 := by rw [flat_length]; simp
  -- the first m + 1 places
  have hsp : es ++ [e] = es.take m ++ (es ++ [e]).drop m := by
    conv => lhs; rw [← List.take_append_drop m (es ++ [e])]
    rw [List.take_append_of_le_length hm]
  obtain ⟨p, q, hpq⟩ : ∃ p q, (es ++ [e]).drop m = p :: q := by
    cases h : (es ++ [e]).drop m with
    | nil => rw [List.drop_eq_nil_iff] at h; simp at h; omega
    | cons p q => exact ⟨p, q, rfl⟩
  rw [hpq] at hsp
  have htk : cur.take ((m + 1) * 3) = flat (es.take m) ++ enc p := by
    rw [htl, hsp, flat_append, flat_cons, List.append_assoc, ← List.append_assoc (flat (es.take m))]
    rw [← List.append_assoc, List.append_assoc (flat (es.take m) ++ enc p)]
    exact List.take_left' (by rw [List.length_append, hA, enc_len]; omega)
  have hdr : cur.drop ((m + 1) * 3 + (flat (es.drop m)).length) = tl := by
    rw [htl, hD, show (m + 1) * 3 + (es.length - m) * 3 = (es.length + 1) * 3 by omega]
    exact List.drop_left' hL
  unfold splice
  rw [htk, hdr]
  have := set3 (flat (es.take m)) (flat (es.drop m) ++ tl) (.int .i64 p.a) (.int .i64 p.b) (.string p.s) (.int .i64 e.a) (.int .i64 e.b) (.string e.s) (m * 3) hA
  rw [show (flat (es.take m) ++ enc p) ++ (flat (es.drop m) ++ tl) = flat (es.take m) ++ Value.int .i64 p.a :: Value.int .i64 p.b :: Value.string p.s :: (flat (es.drop m) ++ tl) by simp [enc], this]
  rw [flat_append, flat_cons, show flat (es.take m) ++ Value.int .i64 e.a :: Value.int .i64 e.b :: Value.string e.s :: (flat (es.drop m) ++ tl) = (flat (es.take m) ++ (enc e ++ flat (es.drop m))) ++ tl by simp [enc]]
  exact List.take_left' (by simp only [List.length_append, hA, hD, enc_len]; omega)

theorem put_len (cur : List Value) (es : List E) (e : E) (m : Nat) (hm : m ≤ es.length) (h : (es.length + 1) * 3 ≤ cur.length) :
    ((((splice cur ((m + 1) * 3) (flat (es.drop m))).set (m * 3) (.int .i64 e.a)).set (m * 3 + 1) (.int .i64 e.b)).set (m * 3 + 2) (.string e.s)).length = cur.length := by
  simp only [List.length_set]
  exact length_splice _ _ _ (by rw [flat_length]; simp; omega)

theorem flat_drop (xs : List E) (m : Nat) (hm : m ≤ xs.length) : (flat xs).drop (m * 3) = flat (xs.drop m) := by
  have : flat xs = flat (xs.take m) ++ flat (xs.drop m) := by rw [← flat_append, List.take_append_drop]
  rw [this]
  exact List.drop_left' (by rw [flat_length]; simp; omega)

theorem src_cells (cur : List Value) (es : List E) (e : E) (m : Nat) (hm : m ≤ es.length) (ht : cur.take ((es.length + 1) * 3) = flat (es ++ [e])) : ∀ (j : Nat) (v : Value), (flat (es.drop m))[j]? = some v → cur[m * 3 + j]? = some v := by
  intro j v hj
  have hjl : j < (es.length - m) * 3 := by
    have := (List.getElem?_eq_some_iff.1 hj).1
    rw [flat_length] at this; simpa using this
  have h1 : (flat (es ++ [e]))[m * 3 + j]? = some v := by
    rw [← List.getElem?_drop, flat_drop _ _ (by simp; omega), List.drop_append_of_le_length hm, flat_append, List.getElem?_append_left (by rw [flat_length]; simpa using hjl)]
    exact hj
  rw [← ht, List.getElem?_take] at h1
  split at h1
  · exact h1
  · cases h1

theorem flat_one (xs : List E) : ∀ v ∈ flat xs, v.oneCell' = true := by
  intro v hv
  unfold flat at hv
  rw [List.mem_flatMap] at hv
  obtain ⟨x, _, hx⟩ := hv
  simp [enc] at hx
  rcases hx with rfl | rfl | rfl <;> rfl
end Go.Proofs.Ytonajgipkpnpoaa.SortU
