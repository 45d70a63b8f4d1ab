/- The plain law of hunks: how long a form is; what a reader is told. -/
import Derived.Test.YtonajgipkpnpoaaDoorCUni
import Derived.Test.YtonajgipkpnpoaaDoorStr
namespace Go.Uni
open Go.Lib
set_option linter.unusedVariables false
set_option linter.unusedSimpArgs false

/-- how long lines are, one more for each -/
def wt (L : List Bs) : Nat := (L.map fun l => l.length + 1).sum
def wtI (its : List It) : Nat := (its.map fun i => i.l.length + 1).sum
def wtH (H : List Hk) : Nat := (H.map fun h => wtI h.its).sum

theorem wt_append (a b : List Bs) : wt (a ++ b) = wt a + wt b := by simp [wt]
theorem wt_one (l : Bs) : wt [l] = l.length + 1 := by simp [wt]
theorem wt_cut (L : List Bs) {d e : Nat} (h : d ≤ e) : wt (L.take e) = wt (L.take d) + wt ((L.take e).drop d) := by
  rw [← wt_append]
  congr 1
  rw [show L.take d = (L.take e).take d by rw [List.take_take, Nat.min_eq_left h], List.take_append_drop]
theorem wt_succ {L : List Bs} {d : Nat} {l : Bs} (h : L[d]? = some l) : wt (L.take (d + 1)) = wt (L.take d) + (l.length + 1) := by
  have hd := (List.getElem?_eq_some_iff.1 h)
  rw [List.take_succ_eq_append_getElem hd.1, wt_append, hd.2, wt_one]
theorem wt_take_le (L : List Bs) (d : Nat) : wt (L.take d) ≤ wt L := by
  conv => rhs; rw [← List.take_append_drop d L]
  rw [wt_append]; omega

theorem wt_flat : ∀ L : List Bs, wt L = L.flatten.length + L.length
  | [] => rfl
  | l :: t => by
    have := wt_flat t
    simp only [wt, List.map_cons, List.sum_cons, List.flatten_cons, List.length_append, List.length_cons] at this ⊢
    omega

theorem run_wt {L : List Bs} : ∀ {its : List It} {d : Nat} {acc : List Bs} {D : Nat} {ACC : List Bs}, run L its d acc = some (D, ACC) → wtI its + wt (L.take d) + wt acc ≤ wt (L.take D) + wt ACC
  | [], d, acc, D, ACC, h => by
    injection h with h
    injection h with h1 h2
    subst h1 h2
    simp [wtI]
  | i :: t, d, acc, D, ACC, h => by
    have e0 : wtI (i :: t) = (i.l.length + 1) + wtI t := by simp [wtI]
    unfold run at h
    by_cases hk : i.k = 1
    · rw [if_pos hk] at h
      have := run_wt h
      rw [wt_append, wt_one] at this
      omega
    · rw [if_neg hk] at h
      by_cases hd : L[d]? = some i.l
      · rw [if_pos hd] at h
        have h1 := run_wt h
        have h2 := wt_succ hd
        split at h1
        · omega
        · rw [wt_append, wt_one] at h1; omega
      · rw [if_neg hd] at h; cases h

theorem runH_wt {L : List Bs} : ∀ {H : List Hk} {d : Nat} {acc : List Bs} {D : Nat} {ACC : List Bs}, runH L H d acc = some (D, ACC) → wtH H + wt (L.take d) + wt acc ≤ wt (L.take D) + wt ACC
  | [], d, acc, D, ACC, h => by
    injection h with h
    injection h with h1 h2
    subst h1 h2
    simp [wtH]
  | x :: t, d, acc, D, ACC, h => by
    have e0 : wtH (x :: t) = wtI x.its + wtH t := by simp [wtH]
    unfold runH at h
    split at h
    · rename_i hc
      obtain ⟨⟨d', acc'⟩, h1, h2⟩ := Option.bind_eq_some_iff.1 h
      have e1 := run_wt h1
      have e2 : wtH t + wt (L.take d') + wt acc' ≤ wt (L.take D) + wt ACC := runH_wt h2
      rw [wt_append] at e1
      have e3 := wt_cut L hc.1
      omega
    · cases h

theorem ended_ne : ∀ {L : List Bs}, Ended L → ∀ l ∈ L, l ≠ []
  | [], _, l, h => by cases h
  | [a], h, l, hl => by
    rw [List.mem_singleton.1 hl]; exact h
  | a :: b :: t, h, l, hl => by
    rcases List.mem_cons.1 hl with rfl | hl
    · exact endNl_ne h.1
    · exact ended_ne (L := b :: t) h.2 l hl

theorem len_flat : ∀ {L : List Bs}, (∀ l ∈ L, l ≠ []) → L.length ≤ L.flatten.length
  | [], _ => Nat.le_refl _
  | l :: t, h => by
    have h1 := len_flat (L := t) (fun x hx => h x (List.mem_cons_of_mem _ hx))
    have h2 := List.length_pos_iff.2 (h l (by simp))
    rw [List.flatten_cons, List.length_append, List.length_cons]; omega

theorem rIt_len (i : It) : (rIt i).length ≤ 30 * (i.l.length + 1) := by
  unfold rIt
  split
  · simp; omega
  · have : noEnd.length = 28 := rfl
    simp [this]; omega

theorem rIts_len : ∀ its : List It, (rIts its).length ≤ 30 * wtI its
  | [] => by simp [rIts]
  | i :: t => by
    have h1 := rIts_len t
    have h2 := rIt_len i
    have e1 : rIts (i :: t) = rIt i ++ rIts t := by simp [rIts]
    have e2 : wtI (i :: t) = (i.l.length + 1) + wtI t := by simp [wtI]
    rw [e1, e2, List.length_append]; omega

theorem wtI_len (its : List It) : its.length ≤ wtI its := by
  induction its with
  | nil => exact Nat.le_refl _
  | cons i t ih =>
    have e2 : wtI (i :: t) = (i.l.length + 1) + wtI t := by simp [wtI]
    rw [e2, List.length_cons]; omega

theorem fromC_le' (its : List It) : fromC its ≤ its.length := by unfold fromC; exact List.length_filter_le _ _
theorem toC_le' (its : List It) : toC its ≤ its.length := by unfold toC; exact List.length_filter_le _ _

theorem rHks_len {m : Nat} (hm : m ≤ 1000000000) : ∀ H : List Hk, (∀ h ∈ H, Good m h) → wtH H ≤ 1000000000 → (rHks H).length ≤ 100 * H.length + 30 * wtH H
  | [], _, _ => by simp [rHks]
  | h :: t, hg, hw => by
    have e1 : rHks (h :: t) = rHk h ++ rHks t := by simp [rHks]
    have e2 : wtH (h :: t) = wtI h.its + wtH t := by simp [wtH]
    have h1 := rHks_len hm t (fun x hx => hg x (List.mem_cons_of_mem _ hx)) (by omega)
    have h2 := rIts_len h.its
    have h3 := wtI_len h.its
    have g := hg h (by simp)
    have h4 := fromC_le' h.its
    have h5 := toC_le' h.its
    have h6 := Go.Proofs.YtonajgipkpnpoaaDoor.Un.rSpan_le (f := h.f) (n := fromC h.its) (by have := g.fm; omega) (by omega)
    have h7 := Go.Proofs.YtonajgipkpnpoaaDoor.Un.rSpan_le (f := h.t) (n := toC h.its) (by have := g.tm; omega) (by omega)
    rw [e1, e2, List.length_append, List.length_cons]
    unfold rHk rHead
    simp only [List.length_append, List.length_cons, List.length_nil]
    omega

theorem app_len_in {c : Bs} : ∀ (es : List BE) (p : Nat), InO c.length es p → (app c es p).length + p ≤ c.length + tot es
  | [], p, h => by
    have : p ≤ c.length := h
    simp [app, tot]; omega
  | e :: t, p, ⟨h1, h2, h3, h4⟩ => by
    have h := app_len_in (c := c) t e.e h4
    have e1 : tot (e :: t) = e.new.length + tot t := by simp [tot]
    show ((c.take e.s).drop p ++ e.new ++ app c t e.e).length + p ≤ _
    rw [List.length_append, List.length_append, e1]
    have : ((c.take e.s).drop p).length = e.s - p := by simp; omega
    omega

theorem al_inO {c : Bs} : ∀ (es : List BE) (p : Nat), Al c es p → InO c.length es p
  | [], p, h => h
  | e :: t, p, ⟨h1, h2, h3, _, _, _, h7⟩ => ⟨h1, h2, h3, al_inO t e.e h7⟩

/-- what hunks tell of the text that edits make -/
structure Tells (c : Bs) (H : List Hk) (out : Bs) : Prop where
  ne : H ≠ []
  good : ∀ h ∈ H, Good 4000000 h
  its : ∀ h ∈ H, h.its.length ≤ 1000000000
  len : H.length ≤ 1000000
  size : (rHks H).length ≤ 1000000000
  ol : out.length ≤ 4000000
  run : ∃ D ACC, runH (splitL c) H 0 [] = some (D, ACC) ∧ D ≤ (splitL c).length ∧ Ended (ACC ++ (splitL c).drop D) ∧ (ACC ++ (splitL c).drop D).flatten = out

theorem fin_len {ctx : Nat} {L : List Bs} {st : St} : (fin ctx L st).length ≤ st.H.length + 1 := by
  unfold fin
  split
  · simp
  · omega

theorem stAt_H1 {ctx : Nat} {c : Bs} {ys : List BE} : ∀ {i : Nat}, 0 < i → i ≤ ys.length → (stAt ctx c ys i).H.length + 1 ≤ i
  | 1, _, h => by
    rw [stAt_succ ctx c ys 0 (ys[0]'(by omega)) (List.getElem?_eq_getElem _), stAt_zero]
    exact Nat.le_refl _
  | i + 2, _, h => by
    rw [stAt_succ ctx c ys (i + 1) (ys[i + 1]'(by omega)) (List.getElem?_eq_getElem _)]
    have h1 := stAt_H1 (ctx := ctx) (c := c) (ys := ys) (i := i + 1) (by omega) (by omega)
    have h2 := pre_H (ctx := ctx) (L := splitL c) (st := stAt ctx c ys (i + 1)) (a := (toLE c (ys[i + 1]'(by omega))).a)
    show (pre ctx (splitL c) (stAt ctx c ys (i + 1)) _).1.length + 1 ≤ _
    omega

theorem tells_of {ctx : Nat} (hc : 1 ≤ ctx) {c : Bs} {ys : List BE} (hne : ys ≠ []) (ha : Al c ys 0) (hcl : c.length ≤ 1000000) (ht : tot ys ≤ 2000000) (hl : ys.length ≤ 1000000) : Tells c (fin ctx (splitL c) (stAt ctx c ys ys.length)) (app c ys 0) := by
  obtain ⟨H, h1, h2, h3, D, ACC, h4, h5, h6, h7⟩ := hunks_tell hc c ys hne ha
  rw [stAt_all, ← h1]
  have e1 := splitL_length_le c
  have e2 := insN_le c ys
  have e3 := runH_wt h4
  have e4 := app_len_in ys 0 (al_inO ys 0 ha)
  have e5 := wt_take_le (splitL c) D
  have e6 := wt_flat (splitL c)
  rw [flatten_splitL] at e6
  have e7 := wt_flat ACC
  have hne' := ended_ne h6
  have e8 := len_flat (L := ACC) (fun l hl => hne' l (by simp [hl]))
  have e9 : ACC.flatten.length ≤ (app c ys 0).length := by
    rw [← h7, List.flatten_append, List.length_append]; omega
  have e10 : wt (List.take 0 (splitL c)) = 0 := rfl
  have e11 : wt [] = 0 := rfl
  have e12 : H.length ≤ ys.length := by
    rw [h1, ← stAt_all]
    exact Nat.le_trans fin_len (stAt_H1 (List.length_pos_iff.2 hne) (Nat.le_refl _))
  have hg : ∀ h ∈ H, Good 4000000 h := fun h hh => (h3 h hh).mono (by omega)
  have hw : wtH H ≤ 10000000 := by omega
  have e13 := rHks_len (m := 4000000) (by omega) H hg (by omega)
  refine ⟨h2, hg, fun h hh => ?_, by omega, by omega, by omega, D, ACC, h4, h5, h6, h7⟩
  have h8 := wtI_len h.its
  have h9 : wtI h.its ≤ wtH H := by
    obtain ⟨i, hi, rfl⟩ := List.mem_iff_getElem.1 hh
    unfold wtH
    exact List.single_le_sum' _ _ (List.mem_map.2 ⟨_, List.getElem_mem hi, rfl⟩)
  omega
where List.single_le_sum' : ∀ (l : List Nat) (x : Nat), x ∈ l → x ≤ l.sum
  | a :: t, x, h => by
    rw [List.sum_cons]
    rcases List.mem_cons.1 h with rfl | h
    · omega
    · have := List.single_le_sum' t x h; omega
end Go.Uni
