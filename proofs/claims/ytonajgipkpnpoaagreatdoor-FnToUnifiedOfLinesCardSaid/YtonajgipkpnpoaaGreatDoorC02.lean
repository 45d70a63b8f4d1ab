/- The plain law of hunks under way: bounds for each edit. The plain law of the context: each hunk has its lines of context at both ends, fewer only at the ends of the text. The plain law of differences: what a chain of common pieces leaves, as edits of the first text, makes the second one. -/
import Derived.Test.YtonajgipkpnpoaaGreatDoorC01
namespace Go.Uni
set_option linter.unusedVariables false
set_option linter.unusedSimpArgs false
def sz (st : St) : Nat := match st.h with
  | some h => h.its.length
  | none => 0
theorem pre_sz {ctx : Nat} {L : List Bs} {st : St} {a n : Nat} (hla : st.last ≤ a) (ha : a ≤ L.length) (h : sz st ≤ st.last + n) : (pre ctx L st a).2.1.its.length ≤ a + n := by
  have e1 := eqs_length L (a - ctx) a
  have e2 := eqs_length L st.last a
  unfold pre
  cases hh : st.h with
  | none =>
    show (eqs L (a - ctx) a).length ≤ _
    omega
  | some k =>
    have hk : sz st = k.its.length := by unfold sz; rw [hh]
    rw [hk] at h
    dsimp only
    split
    · show k.its.length ≤ _; omega
    · split
      · show (k.its ++ eqs L st.last a).length ≤ _
        rw [List.length_append]; omega
      · show (eqs L (a - ctx) a).length ≤ _
        omega
theorem pre_tl {ctx : Nat} {L : List Bs} {st : St} {a : Nat} : (pre ctx L st a).2.2 ≤ st.tl + (a - st.last) := by
  unfold pre
  cases hh : st.h with
  | none => exact Nat.le_refl _
  | some k =>
    dsimp only
    split
    · show st.tl ≤ _; omega
    · split
      · show st.tl ≤ _; omega
      · exact Nat.le_refl _
structure Bd (L : List Bs) (st : St) (n : Nat) : Prop where
  last : st.last ≤ L.length
  tl : st.tl ≤ st.last + n
  sz : sz st ≤ st.last + n
theorem step_bd {ctx : Nat} {L : List Bs} {st : St} {e : LE} {n : Nat} (h : Bd L st n) (h1 : st.last ≤ e.a) (h2 : e.a ≤ e.b) (h3 : e.b ≤ L.length) : Bd L (step ctx L st e) (n + e.ins.length) := by
  have p1 := pre_sz (ctx := ctx) (L := L) h1 (by omega) h.sz
  have p2 := pre_tl (ctx := ctx) (L := L) (st := st) (a := e.a)
  have t := h.tl
  refine ⟨h3, ?_, ?_⟩
  · show (pre ctx L st e.a).2.2 + e.ins.length ≤ e.b + (n + e.ins.length)
    omega
  · show ((((pre ctx L st e.a).2.1.its ++ dels L e.a e.b) ++ inss e.ins).length) ≤ e.b + (n + e.ins.length)
    have : (dels L e.a e.b).length = e.b - e.a := by unfold dels; simp; omega
    rw [List.length_append, List.length_append, this]
    have : (inss e.ins).length = e.ins.length := by simp [inss]
    omega
theorem steps_append (ctx : Nat) (L : List Bs) (x y : List LE) (st : St) : steps ctx L (x ++ y) st = steps ctx L y (steps ctx L x st) := by simp [steps]
theorem steps_bd {ctx : Nat} {c : Bs} : ∀ (ys : List BE) (p i n : Nat) (y : BE) (st : St), Al c ys p → LP c p → st.last = ln c p → Bd (splitL c) st n → ys[i]? = some y →
    ∃ m, m + (splitL y.new).length ≤ n + insN (ys.map (toLE c)) ∧ Bd (splitL c) (steps ctx (splitL c) ((ys.take i).map (toLE c)) st) m ∧ (steps ctx (splitL c) ((ys.take i).map (toLE c)) st).last ≤ ln c y.s ∧ ln c y.s ≤ ln c y.e ∧ ln c y.e ≤ (splitL c).length
  | [], p, i, n, y, st, _, _, _, _, h => by simp at h
  | e :: t, p, 0, n, y, st, ⟨h1, h2, h3, h4, h5, h6, h7⟩, hp, hl, hb, h => by
    obtain rfl : e = y := by simpa using h
    have hs := ls_of hp h4 h1 (by omega)
    refine ⟨n, ?_, hb, ?_, ln_mono h4 h2, ln_le h5⟩
    · simp only [List.map_cons, insN, List.sum_cons, toLE]; omega
    · show st.last ≤ _; rw [hl]; exact ln_mono hs h1
  | e :: t, p, i + 1, n, y, st, ⟨h1, h2, h3, h4, h5, h6, h7⟩, hp, hl, hb, h => by
    have hs := ls_of hp h4 h1 (by omega)
    have hb2 := step_bd (ctx := ctx) (e := toLE c e) hb (by rw [hl]; exact ln_mono hs h1) (ln_mono h4 h2) (ln_le h5)
    obtain ⟨m, k1, k2, k3, k4, k5⟩ := steps_bd (ctx := ctx) t e.e i (n + (splitL e.new).length) y (step ctx (splitL c) st (toLE c e)) h7 h5 rfl hb2 (by simpa using h)
    refine ⟨m, ?_, k2, k3, k4, k5⟩
    simp only [List.map_cons, insN, List.sum_cons, toLE] at k1 ⊢; omega
theorem bd_start (c : Bs) : Bd (splitL c) ⟨[], none, 0, 0⟩ 0 := ⟨Nat.zero_le _, Nat.zero_le _, Nat.zero_le _⟩
theorem lp_zero (c : Bs) : LP c 0 := Or.inl (Or.inl (by simp))
def stAt (ctx : Nat) (c : Bs) (ys : List BE) (i : Nat) : St := steps ctx (splitL c) ((ys.take i).map (toLE c)) ⟨[], none, 0, 0⟩
theorem stAt_zero (ctx : Nat) (c : Bs) (ys : List BE) : stAt ctx c ys 0 = ⟨[], none, 0, 0⟩ := rfl
theorem stAt_succ (ctx : Nat) (c : Bs) (ys : List BE) (i : Nat) (y : BE) (h : ys[i]? = some y) : stAt ctx c ys (i + 1) = step ctx (splitL c) (stAt ctx c ys i) (toLE c y) := by
  have hlt : i < ys.length := (List.getElem?_eq_some_iff.1 h).1
  have e0 : ys[i] = y := (List.getElem?_eq_some_iff.1 h).2
  unfold stAt
  rw [List.take_succ_eq_append_getElem hlt, e0, List.map_append, steps_append]
  rfl
theorem stAt_none {ctx : Nat} {c : Bs} {ys : List BE} {i : Nat} (h : (stAt ctx c ys i).h = none) : (stAt ctx c ys i).last = 0 := by
  unfold stAt at h ⊢
  rcases Decidable.em ((ys.take i).map (toLE c) = []) with e | e
  · rw [e]; rfl
  · exact absurd h (steps_some _ _ _ _ e)
theorem pre_H {ctx : Nat} {L : List Bs} {st : St} {a : Nat} : (pre ctx L st a).1.length ≤ st.H.length + 1 := by
  unfold pre
  cases hh : st.h with
  | none => exact Nat.le_succ _
  | some k =>
    dsimp only
    split
    · exact Nat.le_succ _
    · split
      · exact Nat.le_succ _
      · simp
theorem stAt_H {ctx : Nat} {c : Bs} {ys : List BE} : ∀ {i : Nat}, i ≤ ys.length → (stAt ctx c ys i).H.length ≤ i
  | 0, _ => Nat.le_refl _
  | i + 1, h => by
    rw [stAt_succ ctx c ys i (ys[i]'(by omega)) (List.getElem?_eq_getElem _)]
    have h1 := stAt_H (ctx := ctx) (c := c) (ys := ys) (i := i) (by omega)
    have h2 := pre_H (ctx := ctx) (L := splitL c) (st := stAt ctx c ys i) (a := (toLE c (ys[i]'(by omega))).a)
    show (pre ctx (splitL c) (stAt ctx c ys i) _).1.length ≤ _
    omega
theorem expandAll_len {c : Bs} {x : BE} {t ys : List BE} (h : ExpandAll c x t ys) : ys.length ≤ t.length + 1 := by
  induction h with
  | last x y h => simp
  | join x e t ys _ _ ih => simp at ih ⊢; omega
  | flush x e y t ys _ _ _ ih => simp at ih ⊢; omega
theorem lineEd_len {c : Bs} {es ys : List BE} (h : LineEd c es ys) : ys.length ≤ es.length := by
  rcases h with ⟨rfl, _⟩ | ⟨x, t, rfl, h⟩
  · exact Nat.le_refl _
  · exact expandAll_len h
theorem stAt_none2 {ctx : Nat} {c : Bs} {ys : List BE} (h : (stAt ctx c ys ys.length).h = none) : ys = [] := by
  rcases Decidable.em (ys = []) with e | e
  · exact e
  · exfalso
    unfold stAt at h
    rw [List.take_length] at h
    exact steps_some ctx (splitL c) (ys.map (toLE c)) ⟨[], none, 0, 0⟩ (by simpa using e) h
theorem stAt_all (ctx : Nat) (c : Bs) (ys : List BE) : stAt ctx c ys ys.length = steps ctx (splitL c) (ys.map (toLE c)) ⟨[], none, 0, 0⟩ := by unfold stAt; rw [List.take_length]
theorem stAt_bd {ctx : Nat} {c : Bs} {ys : List BE} {i : Nat} {y : BE} (ha : Al c ys 0) (hy : ys[i]? = some y) :
    ∃ m, m + (splitL y.new).length ≤ tot ys ∧ Bd (splitL c) (stAt ctx c ys i) m ∧ (stAt ctx c ys i).last ≤ ln c y.s ∧ ln c y.s ≤ ln c y.e ∧ ln c y.e ≤ (splitL c).length := by
  obtain ⟨m, k1, k2⟩ := steps_bd (ctx := ctx) ys 0 i 0 y ⟨[], none, 0, 0⟩ ha (lp_zero c) (by rw [ln_zero]) (bd_start c) hy
  have := insN_le c ys
  exact ⟨m, by omega, k2⟩
theorem stAt_bd_end {ctx : Nat} {c : Bs} {ys : List BE} (ha : Al c ys 0) : ∃ m, m ≤ tot ys ∧ Bd (splitL c) (stAt ctx c ys ys.length) m := by
  rcases List.eq_nil_or_concat ys with rfl | ⟨t, e, rfl⟩
  · exact ⟨0, Nat.zero_le _, bd_start c⟩
  · rw [List.concat_eq_append] at *
    have hy : (t ++ [e])[t.length]? = some e := by simp
    obtain ⟨m, k1, k2, k3, k4, k5⟩ := stAt_bd (ctx := ctx) ha hy
    refine ⟨m + (splitL e.new).length, k1, ?_⟩
    rw [List.length_append, show t.length + [e].length = t.length + 1 from rfl, stAt_succ ctx c _ _ e hy]
    exact step_bd k2 k3 k4 k5
end Go.Uni
namespace Go.Uni
set_option linter.unusedVariables false
set_option linter.unusedSimpArgs false
theorem ht_append : ∀ (a b : List It) (s : Nat × Nat × Bool), ht (a ++ b) s = ht b (ht a s)
  | [], b, s => rfl
  | i :: t, b, s => by simp only [List.cons_append, ht]; exact ht_append t b _
theorem ht_eqs_no : ∀ (l : List Bs) (q r : Nat), ht (l.map (It.mk 2)) (q, r, false) = (q + l.length, r, false)
  | [], q, r => rfl
  | x :: t, q, r => by
    simp only [List.map_cons, ht, if_true, List.length_cons]
    rw [if_neg (by simp), ht_eqs_no t (q + 1) r, Nat.add_assoc, Nat.add_comm 1]
theorem ht_eqs_yes : ∀ (l : List Bs) (q r : Nat), ht (l.map (It.mk 2)) (q, r, true) = (q, r + l.length, true)
  | [], q, r => rfl
  | x :: t, q, r => by
    simp only [List.map_cons, ht, if_true, List.length_cons]
    rw [ht_eqs_yes t q (r + 1), Nat.add_assoc, Nat.add_comm 1]
theorem ht_chg : ∀ (l : List It) (q r : Nat) (b : Bool), l ≠ [] → (∀ i ∈ l, i.k ≠ 2) → ht l (q, r, b) = (q, 0, true)
  | [i], q, r, b, _, h => by simp [ht, h i (by simp)]
  | i :: j :: t, q, r, b, _, h => by
    rw [ht, if_neg (h i (by simp))]
    exact ht_chg (j :: t) q 0 true (by simp) (fun x hx => h x (by simp [hx]))
theorem fromC_eqs (l : List Bs) : fromC (l.map (It.mk 2)) = l.length := by
  unfold fromC
  rw [List.filter_eq_self.2 (fun i hi => by obtain ⟨x, _, rfl⟩ := List.mem_map.1 hi; simp)]
  simp
theorem fromC_dels (l : List Bs) : fromC (l.map (It.mk 0)) = l.length := by
  unfold fromC
  rw [List.filter_eq_self.2 (fun i hi => by obtain ⟨x, _, rfl⟩ := List.mem_map.1 hi; simp)]
  simp
theorem fromC_inss (l : List Bs) : fromC (inss l) = 0 := by
  unfold fromC inss
  rw [List.filter_eq_nil_iff.2 (fun i hi => by obtain ⟨x, _, rfl⟩ := List.mem_map.1 hi; simp)]
  rfl
def arH (ctx n : Nat) (h : Hk) : Prop :=
  ((ht h.its (0, 0, false)).1 = ctx ∨ ((ht h.its (0, 0, false)).1 ≤ ctx ∧ h.f = 1)) ∧ ((ht h.its (0, 0, false)).2.1 = ctx ∨ ((ht h.its (0, 0, false)).2.1 ≤ ctx ∧ h.f - 1 + fromC h.its = n)) ∧ 1 ≤ h.f
structure ArP (ctx a : Nat) (h : Hk) : Prop where
  f1 : 1 ≤ h.f
  hd : (ht h.its (0, 0, false)).1 = ctx ∨ ((ht h.its (0, 0, false)).1 ≤ ctx ∧ h.f = 1)
  at_ : h.f - 1 + fromC h.its = a
def ArO (ctx a : Nat) (h : Hk) : Prop := ArP ctx a h ∧ (ht h.its (0, 0, false)).2 = (0, true)
structure ArI (ctx : Nat) (L : List Bs) (st : St) : Prop where
  last : st.last ≤ L.length
  H : ∀ h ∈ st.H, arH ctx L.length h
  none : st.h = none → st.last = 0
  some : ∀ h, st.h = some h → ArO ctx st.last h
theorem ArO.more {ctx a b : Nat} {L : List Bs} {h : Hk} (k : ArO ctx a h) (hab : a ≤ b) : ArP ctx (a + (min b L.length - a)) (hkAdd h (Go.Uni.eqs L a b)) ∧ (ht (hkAdd h (Go.Uni.eqs L a b)).its (0, 0, false)).2 = (min b L.length - a, true) := by
  obtain ⟨⟨f1, hd, at_⟩, h2⟩ := k
  have hlen := eqs_length L a b
  have e : ht (hkAdd h (Go.Uni.eqs L a b)).its (0, 0, false) = ((ht h.its (0, 0, false)).1, min b L.length - a, true) := by
    show ht (h.its ++ Go.Uni.eqs L a b) _ = _
    rw [ht_append, show ht h.its (0, 0, false) = ((ht h.its (0, 0, false)).1, 0, true) from Prod.ext rfl h2]
    unfold Go.Uni.eqs at *
    rw [ht_eqs_yes, Nat.zero_add]
    rw [List.length_map] at hlen
    rw [hlen]
  refine ⟨⟨f1, by rw [e]; exact hd, ?_⟩, by rw [e]⟩
  show h.f - 1 + fromC (h.its ++ Go.Uni.eqs L a b) = _
  rw [fromC_append]
  unfold Go.Uni.eqs at *
  rw [List.length_map] at hlen
  rw [fromC_eqs, hlen]
  omega
theorem new_ar {ctx a : Nat} {L : List Bs} {st : St} (ha : a ≤ L.length) : ArP ctx a (hkNew ctx L st a) := by
  have hlen := eqs_length L (a - ctx) a
  rw [Nat.min_eq_left ha] at hlen
  have e : ht (hkNew ctx L st a).its (0, 0, false) = (a - (a - ctx), 0, false) := by
    show ht (eqs L (a - ctx) a) _ = _
    unfold eqs at *
    rw [List.length_map] at hlen
    rw [ht_eqs_no, Nat.zero_add, hlen]
  have ef : (hkNew ctx L st a).f = a + 1 - (a - (a - ctx)) := by show a + 1 - (eqs L (a - ctx) a).length = _; rw [hlen]
  refine ⟨by rw [ef]; omega, by rw [e, ef]; show a - (a - ctx) = ctx ∨ (a - (a - ctx) ≤ ctx ∧ _); omega, ?_⟩
  rw [ef]
  show _ + fromC (eqs L (a - ctx) a) = a
  unfold eqs at *
  rw [List.length_map] at hlen
  rw [fromC_eqs, hlen]
  omega
theorem ArO.done {ctx a : Nat} {L : List Bs} {h : Hk} (k : ArO ctx a h) (ha : a ≤ L.length) : arH ctx L.length (hkAdd h (eqs L a (a + ctx))) := by
  obtain ⟨⟨f1, hd, at_⟩, h2⟩ := k.more (L := L) (b := a + ctx) (by omega)
  refine ⟨hd, ?_, f1⟩
  rw [h2]
  show min (a + ctx) L.length - a = ctx ∨ (min (a + ctx) L.length - a ≤ ctx ∧ _)
  omega
theorem pre_ar {ctx : Nat} {L : List Bs} {st : St} {a : Nat} (k : ArI ctx L st) (hla : st.last ≤ a) (ha : a ≤ L.length) : (∀ h ∈ (pre ctx L st a).1, arH ctx L.length h) ∧ ArP ctx a (pre ctx L st a).2.1 := by
  unfold pre
  cases hh : st.h with
  | none => exact ⟨k.H, new_ar ha⟩
  | some h =>
    dsimp only
    have ko := k.some h hh
    by_cases h1 : a = st.last
    · rw [if_pos h1]
      subst h1
      exact ⟨k.H, ko.1⟩
    · rw [if_neg h1]
      by_cases h2 : a ≤ st.last + 2 * ctx
      · rw [if_pos h2]
        refine ⟨k.H, ?_⟩
        have := (ko.more (L := L) (b := a) hla).1
        rwa [show st.last + (min a L.length - st.last) = a by omega] at this
      · rw [if_neg h2]
        refine ⟨fun x hx => ?_, new_ar ha⟩
        rcases List.mem_append.1 hx with hx | hx
        · exact k.H x hx
        · simp at hx; subst hx; exact ko.done k.last
theorem step_ar {ctx : Nat} {L : List Bs} {st : St} {e : LE} (k : ArI ctx L st) (hla : st.last ≤ e.a) (hab : e.a ≤ e.b) (hb : e.b ≤ L.length) (hne : e.a < e.b ∨ e.ins ≠ []) : ArI ctx L (step ctx L st e) := by
  obtain ⟨h1, f1, hd, at_⟩ := pre_ar k hla (Nat.le_trans hab hb)
  refine ⟨hb, h1, (fun h => by cases h), fun h hh => ?_⟩
  obtain rfl := Option.some.inj hh
  have hlen : (dels L e.a e.b).length = e.b - e.a := by unfold dels; simp; omega
  have hci : ∀ i ∈ dels L e.a e.b ++ inss e.ins, i.k ≠ 2 := fun i hi => by
    rcases List.mem_append.1 hi with hi | hi
    · obtain ⟨x, _, rfl⟩ := List.mem_map.1 hi; simp
    · obtain ⟨x, _, rfl⟩ := List.mem_map.1 hi; simp
  have hcn : dels L e.a e.b ++ inss e.ins ≠ [] := fun h => by
    have := congrArg List.length h
    rw [List.length_append, hlen] at this
    have hi : (inss e.ins).length = e.ins.length := by simp [inss]
    rw [hi] at this
    rcases hne with h | h
    · simp at this; omega
    · have : e.ins.length = 0 := by simp at this; simp [this]
      exact h (List.eq_nil_of_length_eq_zero this)
  have eh : ht ((pre ctx L st e.a).2.1.its ++ dels L e.a e.b ++ inss e.ins) (0, 0, false) = ((ht (pre ctx L st e.a).2.1.its (0, 0, false)).1, 0, true) := by
    rw [List.append_assoc, ht_append]
    exact ht_chg _ _ _ _ hcn hci
  refine ⟨⟨f1, ?_, ?_⟩, ?_⟩
  · show (ht ((pre ctx L st e.a).2.1.its ++ dels L e.a e.b ++ inss e.ins) (0, 0, false)).1 = ctx ∨ ((ht ((pre ctx L st e.a).2.1.its ++ dels L e.a e.b ++ inss e.ins) (0, 0, false)).1 ≤ ctx ∧ (pre ctx L st e.a).2.1.f = 1)
    rw [eh]; exact hd
  · show (pre ctx L st e.a).2.1.f - 1 + fromC ((pre ctx L st e.a).2.1.its ++ dels L e.a e.b ++ inss e.ins) = e.b
    rw [fromC_append, fromC_append, fromC_inss]
    have : fromC (dels L e.a e.b) = e.b - e.a := by rw [← hlen]; unfold dels; rw [fromC_dels, List.length_map]
    rw [this]; omega
  · show (ht ((pre ctx L st e.a).2.1.its ++ dels L e.a e.b ++ inss e.ins) (0, 0, false)).2 = _
    rw [eh]
theorem steps_ar {ctx : Nat} {L : List Bs} : ∀ (les : List LE) (st : St), ArI ctx L st → AlL L.length les st.last → (∀ e ∈ les, e.a < e.b ∨ e.ins ≠ []) → ArI ctx L (steps ctx L les st)
  | [], st, k, _, _ => k
  | e :: t, st, k, ⟨h1, h2, h3, h4⟩, hne => steps_ar t (step ctx L st e) (step_ar k h1 h2 h3 (hne e (by simp))) h4 (fun x hx => hne x (by simp [hx]))
theorem toLE_ne {c : Bs} {y : BE} (h1 : y.s ≤ y.e) (h2 : y.e ≤ c.length) (h3 : LS c y.s) (h4 : LP c y.e) (hne : y.s < y.e ∨ y.new ≠ []) : (toLE c y).a < (toLE c y).b ∨ (toLE c y).ins ≠ [] := by
  rcases hne with h | h
  · left
    show ln c y.s < ln c y.e
    have hb := ln_between h3 h4 h1
    have hn : (c.take y.e).drop y.s ≠ [] := fun e => by have := congrArg List.length e; simp at this; omega
    have := splitL_ne _ hn
    rw [← hb] at this
    refine Nat.lt_of_not_le fun hle => this ?_
    apply List.drop_eq_nil_of_le
    rw [List.length_take]
    omega
  · exact Or.inr (splitL_ne _ h)
theorem al_mem {c : Bs} : ∀ (ys : List BE) (p : Nat), Al c ys p → ∀ y ∈ ys, y.s ≤ y.e ∧ y.e ≤ c.length ∧ LS c y.s ∧ LP c y.e
  | [], p, _, y, hy => by simp at hy
  | e :: t, p, ⟨h1, h2, h3, h4, h5, h6, h7⟩, y, hy => by
    rcases List.mem_cons.1 hy with rfl | hy
    · exact ⟨h2, h3, h4, h5⟩
    · exact al_mem t e.e h7 y hy
theorem around_of {ctx : Nat} {c : Bs} {ys : List BE} (ha : Al c ys 0) (hne : ∀ y ∈ ys, y.s < y.e ∨ y.new ≠ []) : ∀ h ∈ fin ctx (splitL c) (stAt ctx c ys ys.length), arH ctx (splitL c).length h := by
  have hal := al_lines ys 0 ha (lp_zero c)
  rw [ln_zero] at hal
  have k : ArI ctx (splitL c) (stAt ctx c ys ys.length) := by
    rw [stAt_all]
    refine steps_ar _ _ ⟨Nat.zero_le _, fun h hh => by simp at hh, fun _ => rfl, fun h hh => by cases hh⟩ hal (fun e he => ?_)
    obtain ⟨y, hy, rfl⟩ := List.mem_map.1 he
    obtain ⟨a1, a2, a3, a4⟩ := al_mem ys 0 ha y hy
    exact toLE_ne a1 a2 a3 a4 (hne y hy)
  intro h hh
  unfold fin at hh
  cases hs : (stAt ctx c ys ys.length).h with
  | none => rw [hs] at hh; exact k.H h hh
  | some x =>
    rw [hs] at hh
    rcases List.mem_append.1 hh with hh | hh
    · exact k.H h hh
    · simp at hh; subst hh; exact (k.some x hs).done k.last
end Go.Uni
namespace Go.Uni
open Go.Myers
set_option linter.unusedVariables false
structure Df where
  s : Int
  e : Int
  rs : Int
  re : Int
def difL (N M : Int) : List Dg → Int → Int → List Df
  | [], pa, pb => if pa < N ∨ pb < M then [⟨pa, N, pb, M⟩] else []
  | d :: t, pa, pb => (if pa < d.x ∨ pb < d.y then [⟨pa, d.x, pb, d.y⟩] else []) ++ difL N M t (d.x + d.len) (d.y + d.len)
def off (A : List Bs) (i : Nat) : Nat := (A.take i).flatten.length
def toBE (A B : List Bs) (d : Df) : BE := ⟨off A d.s.toNat, off A d.e.toNat, ((B.take d.re.toNat).drop d.rs.toNat).flatten⟩
theorem off_split (A : List Bs) (i : Nat) : A.flatten = (A.take i).flatten ++ (A.drop i).flatten := by rw [← List.flatten_append, List.take_append_drop]
theorem take_off (A : List Bs) (i : Nat) : A.flatten.take (off A i) = (A.take i).flatten := by
  rw [off_split A i]; unfold off; exact List.take_left' rfl
theorem drop_off (A : List Bs) (i : Nat) : A.flatten.drop (off A i) = (A.drop i).flatten := by
  rw [off_split A i]; unfold off; exact List.drop_left' rfl
theorem off_take (A : List Bs) {i j : Nat} (h : i ≤ j) : off (A.take j) i = off A i := by unfold off; rw [List.take_take, Nat.min_eq_left h]
theorem btw_off (A : List Bs) {i j : Nat} (h : i ≤ j) : btw A.flatten (off A i) (off A j) = ((A.take j).drop i).flatten := by
  unfold btw
  rw [take_off, ← off_take A h, drop_off]
theorem off_le (A : List Bs) (i : Nat) : off A i ≤ A.flatten.length := by
  have := congrArg List.length (off_split A i)
  rw [List.length_append] at this
  unfold off; omega
theorem off_mono (A : List Bs) {i j : Nat} (h : i ≤ j) : off A i ≤ off A j := by
  have h1 := off_le (A.take j) i
  rw [off_take A h] at h1
  exact h1
theorem off_all (A : List Bs) : off A A.length = A.flatten.length := by unfold off; rw [List.take_length]
theorem off_zero (A : List Bs) : off A 0 = 0 := by simp [off]
theorem flat_pos {L : List Bs} (h : L ≠ []) (hne : ∀ x ∈ L, x ≠ []) : 0 < L.flatten.length := by
  obtain ⟨x, t, rfl⟩ := List.exists_cons_of_ne_nil h
  have : 0 < x.length := List.length_pos_iff.2 (hne x (by simp))
  rw [List.flatten_cons, List.length_append]; omega
theorem off_lt {A : List Bs} (hne : ∀ x ∈ A, x ≠ []) {i j : Nat} (h : i < j) (hj : j ≤ A.length) : off A i < off A j := by
  have h1 := congrArg List.length (off_split (A.take j) i)
  rw [List.length_append, ← off, ← off, off_take A (Nat.le_of_lt h)] at h1
  have h2 : 0 < ((A.take j).drop i).flatten.length := flat_pos (by
    intro e
    have := congrArg List.length e
    simp at this; omega) (fun x hx => hne x (List.mem_of_mem_take (List.mem_of_mem_drop hx)))
  unfold off at *
  omega
theorem seg_same {A B : List Bs} {x y n : Nat} (hx : x + n ≤ A.length) (hy : y + n ≤ B.length) (h : ∀ k, k < n → A[x + k]? = B[y + k]?) : (A.take (x + n)).drop x = (B.take (y + n)).drop y := by
  apply List.ext_getElem?
  intro k
  rw [List.getElem?_drop, List.getElem?_drop, List.getElem?_take, List.getElem?_take]
  by_cases hk : k < n
  · rw [if_pos (by omega), if_pos (by omega)]; exact h k hk
  · rw [if_neg (by omega), if_neg (by omega)]
theorem flat_drop (B : List Bs) {i j : Nat} (h : i ≤ j) : ((B.take j).drop i).flatten ++ (B.drop j).flatten = (B.drop i).flatten := by
  rw [← btw_off B h, ← drop_off, ← drop_off]
  exact btw_rest (off_mono B h)
theorem inO_mono {n : Nat} : ∀ (es : List BE) (p q : Nat), p ≤ q → InO n es q → InO n es p
  | [], p, q, h, hq => Nat.le_trans h hq
  | e :: t, p, q, h, ⟨h1, h2⟩ => ⟨Nat.le_trans h h1, h2⟩
def Chg (e : BE) : Prop := e.s < e.e ∨ e.new ≠ []
structure DfOk (A B : List Bs) (pa pb : Nat) (es : List BE) : Prop where
  io : InO A.flatten.length es (off A pa)
  app : Go.Uni.app A.flatten es (off A pa) = (B.drop pb).flatten
  chg : ∀ e ∈ es, Chg e
  tot : Go.Uni.tot es ≤ (B.drop pb).flatten.length
theorem tot_cons (e : BE) (t : List BE) : tot (e :: t) = e.new.length + tot t := by simp [tot]
theorem dfok_one {A B : List Bs} (hA : ∀ x ∈ A, x ≠ []) (hB : ∀ x ∈ B, x ≠ []) {pa pb x y : Nat} {rest : List BE} (ha : pa ≤ x) (hb : pb ≤ y) (hx : x ≤ A.length) (hy : y ≤ B.length) (hg : pa < x ∨ pb < y) (h : DfOk A B x y rest) :
    DfOk A B pa pb (⟨off A pa, off A x, ((B.take y).drop pb).flatten⟩ :: rest) := by
  refine ⟨⟨Nat.le_refl _, off_mono A ha, off_le A x, h.io⟩, ?_, fun e he => ?_, ?_⟩
  · rw [app_btw]
    show btw A.flatten (off A pa) (off A pa) ++ _ ++ app A.flatten rest (off A x) = _
    rw [btw_nil, List.nil_append, h.app, flat_drop B hb]
  · rcases List.mem_cons.1 he with rfl | he
    · rcases hg with hg | hg
      · exact Or.inl (off_lt hA hg hx)
      · right
        intro e
        have := flat_pos (L := (B.take y).drop pb) (by
          intro e
          have := congrArg List.length e
          simp at this; omega) (fun x hx => hB x (List.mem_of_mem_take (List.mem_of_mem_drop hx)))
        rw [show ((B.take y).drop pb).flatten = [] from e] at this
        simp at this
    · exact h.chg e he
  · rw [tot_cons, ← flat_drop B hb, List.length_append]
    have := h.tot
    show ((B.take y).drop pb).flatten.length + tot rest ≤ _
    omega
theorem dfok_same {A B : List Bs} {x y n : Nat} {rest : List BE} (hx : x + n ≤ A.length) (hy : y + n ≤ B.length) (he : ∀ k, k < n → A[x + k]? = B[y + k]?) (h : DfOk A B (x + n) (y + n) rest) : DfOk A B x y rest := by
  have hm := off_mono A (show x ≤ x + n by omega)
  refine ⟨inO_mono _ _ _ hm h.io, ?_, h.chg, ?_⟩
  · rw [← app_early rest _ _ hm h.io, btw_off A (by omega), h.app, seg_same hx hy he, flat_drop B (by omega)]
  · rw [← flat_drop B (show y ≤ y + n by omega), List.length_append]
    have := h.tot
    omega
theorem difL_ok {A B : List Bs} {E : Nat → Nat → Bool} (hA : ∀ x ∈ A, x ≠ []) (hB : ∀ x ∈ B, x ≠ []) (hE : ∀ i j, i < A.length → j < B.length → E i j = true → A[i]? = B[j]?) :
    ∀ (l : List Dg) (pa pb : Nat), pa ≤ A.length → pb ≤ B.length → Chain E A.length B.length l pa pb → DfOk A B pa pb ((difL A.length B.length l pa pb).map (toBE A B))
  | [], pa, pb, ha, hb, _ => by
    have h0 : DfOk A B A.length B.length [] := ⟨by rw [off_all]; exact Nat.le_refl _, by rw [off_all]; simp [app], fun e he => by simp at he, by simp [tot]⟩
    unfold difL
    by_cases hg : (pa : Int) < A.length ∨ (pb : Int) < B.length
    · rw [if_pos hg]
      have := dfok_one (pa := pa) (pb := pb) (x := A.length) (y := B.length) hA hB ha hb (Nat.le_refl _) (Nat.le_refl _) (by omega) h0
      exact this
    · rw [if_neg hg]
      obtain rfl : pa = A.length := by omega
      obtain rfl : pb = B.length := by omega
      exact h0
  | d :: t, pa, pb, ha, hb, hc => by
    obtain ⟨c1, c2, c3, c4, c5, c6, c7⟩ := hc
    obtain ⟨x, y, n⟩ := d
    dsimp only at *
    obtain ⟨x, rfl⟩ : ∃ m : Nat, x = m := ⟨x.toNat, by omega⟩
    obtain ⟨y, rfl⟩ : ∃ m : Nat, y = m := ⟨y.toNat, by omega⟩
    obtain ⟨n, rfl⟩ : ∃ m : Nat, n = m := ⟨n.toNat, by omega⟩
    have hr := difL_ok hA hB hE t (x + n) (y + n) (by omega) (by omega) c7
    have hs : DfOk A B x y ((difL A.length B.length t ((x + n : Nat) : Int) ((y + n : Nat) : Int)).map (toBE A B)) := dfok_same (by omega) (by omega) (fun k hk => hE _ _ (by omega) (by omega) (by have := c6 k (by omega); simpa using this)) hr
    unfold difL
    rw [List.map_append]
    show DfOk A B pa pb (_ ++ (difL A.length B.length t ((x : Int) + n) ((y : Int) + n)).map (toBE A B))
    rw [show ((x + n : Nat) : Int) = (x : Int) + n by omega, show ((y + n : Nat) : Int) = (y : Int) + n by omega] at hs
    by_cases hg : (pa : Int) < x ∨ (pb : Int) < y
    · rw [if_pos hg]
      have := dfok_one (pa := pa) (pb := pb) (x := x) (y := y) hA hB (by omega) (by omega) (by omega) (by omega) (by omega) hs
      exact this
    · rw [if_neg hg]
      obtain rfl : pa = x := by omega
      obtain rfl : pb = y := by omega
      exact hs
theorem difL_len (N M : Int) : ∀ (l : List Dg) (pa pb : Int), (difL N M l pa pb).length ≤ l.length + 1
  | [], pa, pb => by unfold difL; split <;> simp
  | d :: t, pa, pb => by
    unfold difL
    have := difL_len N M t (d.x + d.len) (d.y + d.len)
    rw [List.length_append]
    split <;> simp <;> omega
theorem expand_chg {c : Bs} {x y : BE} (hx : x.s ≤ x.e) (hl : x.e ≤ c.length) (h : Expand c x y) (hc : Chg x) : Chg y := by
  have hle := expand_le hx hl h
  obtain ⟨h1, _, _, _, _, h6⟩ := h
  rcases hc with hc | hc
  · left; omega
  · right
    rw [h6]
    intro e
    have := congrArg List.length e
    simp at this
    exact hc this.2.1
theorem expandAll_chg {c : Bs} {x : BE} {t ys : List BE} (h : ExpandAll c x t ys) : x.s ≤ x.e → InO c.length t x.e → Chg x → (∀ e ∈ t, Chg e) → ∀ y ∈ ys, Chg y := by
  induction h with
  | last x y h => exact fun h1 h2 h3 _ z hz => by simp at hz; subst hz; exact expand_chg h1 h2 h h3
  | join x e t ys hn h ih =>
    intro h1 ⟨i1, i2, i3, i4⟩ h3 h4
    refine ih (by show x.s ≤ e.e; omega) i4 ?_ (fun z hz => h4 z (by simp [hz]))
    rcases h3 with h3 | h3
    · left; show x.s < e.e; omega
    · right; intro e2
      exact h3 (List.append_eq_nil_iff.1 e2).1
  | flush x e y t ys hn h h' ih =>
    intro h1 ⟨i1, i2, i3, i4⟩ h3 h4 z hz
    rcases List.mem_cons.1 hz with rfl | hz
    · exact expand_chg h1 (by omega) h h3
    · exact ih i2 i4 (h4 e (by simp)) (fun z hz => h4 z (by simp [hz])) z hz
theorem lineEd_chg {c : Bs} {es ys : List BE} (h : LineEd c es ys) (hi : InO c.length es 0) (hc : ∀ e ∈ es, Chg e) : ∀ y ∈ ys, Chg y := by
  rcases h with ⟨rfl, _⟩ | ⟨x, t, rfl, h⟩
  · exact hc
  · obtain ⟨i1, i2, i3, i4⟩ := hi
    exact expandAll_chg h i2 i4 (hc x (by simp)) (fun e he => hc e (by simp [he]))
end Go.Uni
