/- The plain law of a stable sort: rotations, the merge by rotation, blocks, and that there is one stable sorted list. No program in sight. -/
import Derived.Sort.LotA
namespace Go.Sst
open Go.Sort
section
variable {α : Type}
def eqv (lt : α → α → Bool) (x y : α) : Bool := !lt x y && !lt y x
variable {lt : α → α → Bool}
theorem eqv_self (hS : SWO lt) (x : α) : eqv lt x x = true := by simp [eqv, hS.irrefl]
theorem not_both (hS : SWO lt) {x y z : α} (h : lt y x = true) (hx : eqv lt z x = true) (hy : eqv lt z y = true) : False := by
  simp only [eqv, Bool.and_eq_true, Bool.not_eq_true'] at hx hy
  have := hS.ntrans y z x hy.2 hx.1
  rw [h] at this; cases this
theorem filter_comm (hS : SWO lt) (A B : List α) (h : ∀ x ∈ A, ∀ y ∈ B, lt y x = true) (z : α) : (B ++ A).filter (eqv lt z) = (A ++ B).filter (eqv lt z) := by
  rw [List.filter_append, List.filter_append]
  by_cases hA : A.filter (eqv lt z) = []
  · rw [hA]; simp
  · by_cases hB : B.filter (eqv lt z) = []
    · rw [hB]; simp
    · obtain ⟨x, hx⟩ := List.exists_mem_of_ne_nil _ hA
      obtain ⟨y, hy⟩ := List.exists_mem_of_ne_nil _ hB
      rw [List.mem_filter] at hx hy
      exact (not_both hS (h x hx.1 y hy.1) hx.2 hy.2).elim
theorem uniq (hS : SWO lt) : ∀ l1 l2 : List α, l1.Pairwise (fun x y => lt y x = false) → l2.Pairwise (fun x y => lt y x = false) →
    (∀ x, l1.filter (eqv lt x) = l2.filter (eqv lt x)) → l1 = l2
  | [], [], _, _, _ => rfl
  | [], y :: t, _, _, h => by
    have := h y
    rw [List.filter_cons_of_pos (eqv_self hS y)] at this
    simp at this
  | x :: t, [], _, _, h => by
    have := h x
    rw [List.filter_cons_of_pos (eqv_self hS x)] at this
    simp at this
  | x :: t, y :: u, p1, p2, h => by
    rw [List.pairwise_cons] at p1 p2
    have hx := h x
    have hy := h y
    rw [List.filter_cons_of_pos (eqv_self hS x)] at hx
    rw [List.filter_cons_of_pos (eqv_self hS y)] at hy
    have e : eqv lt x y = true := by
      simp only [eqv, Bool.and_eq_true, Bool.not_eq_true']
      constructor
      · -- x < y: then x stands in u
        cases c : lt x y with
        | false => rfl
        | true =>
          have m : x ∈ (y :: u).filter (eqv lt x) := by rw [← hx]; simp
          rw [List.mem_filter] at m
          rcases List.mem_cons.1 m.1 with rfl | m1
          · rw [hS.irrefl] at c; cases c
          · have := p2.1 x m1
            rw [c] at this; cases this
      · cases c : lt y x with
        | false => rfl
        | true =>
          have m : y ∈ (x :: t).filter (eqv lt y) := by rw [hy]; simp
          rw [List.mem_filter] at m
          rcases List.mem_cons.1 m.1 with rfl | m1
          · rw [hS.irrefl] at c; cases c
          · have := p1.1 y m1
            rw [c] at this; cases this
    rw [List.filter_cons_of_pos e, List.cons.injEq] at hx
    obtain ⟨rfl, _⟩ := hx
    congr 1
    refine uniq hS t u p1.2 p2.2 fun z => ?_
    have := h z
    by_cases c : eqv lt z x = true
    · rw [List.filter_cons_of_pos c, List.filter_cons_of_pos c, List.cons.injEq] at this
      exact this.2
    · rw [List.filter_cons_of_neg c, List.filter_cons_of_neg c] at this
      exact this
theorem ins_step (hS : SWO lt) (l : List α) (e : α) (k : Nat) (hk : k ≤ l.length) (hs : l.Pairwise (fun x y => lt y x = false))
    (h1 : ∀ x ∈ l.drop k, lt e x = true) (h0 : k = 0 ∨ ∃ y, l[k - 1]? = some y ∧ lt e y = false) :
    (l.take k ++ e :: l.drop k).Pairwise (fun x y => lt y x = false) ∧ ∀ z, (l.take k ++ e :: l.drop k).filter (eqv lt z) = (l ++ [e]).filter (eqv lt z) := by
  have hl : l = l.take k ++ l.drop k := (List.take_append_drop k l).symm
  have hs' := hs
  rw [hl, List.pairwise_append] at hs'
  constructor
  · rw [List.pairwise_append]
    refine ⟨hs'.1, List.pairwise_cons.2 ⟨fun y hy => hS.asymmA (h1 y hy), hs'.2.1⟩, fun x hx y hy => ?_⟩
    rcases List.mem_cons.1 hy with rfl | hy
    · -- x in the front, e
      rcases h0 with h0 | ⟨y0, hy0, hle⟩
      · subst h0; simp at hx
      · -- x ≤ l[k-1] ≤ e
        obtain ⟨i, hi, rfl⟩ := List.mem_iff_getElem.1 hx
        simp at hi
        rw [List.getElem_take]
        rw [List.getElem?_eq_some_iff] at hy0
        obtain ⟨hk1, rfl⟩ := hy0
        by_cases c : i = k - 1
        · subst c; exact hle
        · exact hS.ntrans _ _ _ hle ((List.pairwise_iff_getElem.1 hs) i (k - 1) (by omega) (by omega) (by omega))
    · exact hs'.2.2 x hx y hy
  · intro z
    have : (l ++ [e]).filter (eqv lt z) = (l.take k).filter (eqv lt z) ++ (l.drop k ++ [e]).filter (eqv lt z) := by
      conv => lhs; rw [hl]
      simp only [List.filter_append, List.append_assoc]
    rw [this, List.filter_append, show e :: l.drop k = [e] ++ l.drop k from rfl, filter_comm hS (l.drop k) [e] (fun x hx y hy => by
      rw [List.mem_singleton] at hy; subst hy; exact h1 x hx) z]
end
variable {α : Type} [Inhabited α]
def seg (d : Array α) (a b : Nat) : List α := (List.range' a (b - a)).map (fun i => d[i]!)
theorem seg_empty (d : Array α) (a b : Nat) (h : b ≤ a) : seg d a b = [] := by
  unfold seg; rw [show b - a = 0 by omega]; rfl
theorem seg_append (d : Array α) (a m b : Nat) (h1 : a ≤ m) (h2 : m ≤ b) : seg d a b = seg d a m ++ seg d m b := by
  unfold seg
  rw [← List.map_append]
  congr 1
  rw [show b - a = (m - a) + (b - m) by omega, ← List.range'_append, Nat.one_mul, show a + (m - a) = m by omega]
theorem seg_shift (d d' : Array α) (a a' n : Nat) (h : ∀ i, i < n → d'[a + i]! = d[a' + i]!) : seg d' a (a + n) = seg d a' (a' + n) := by
  unfold seg
  rw [show a + n - a = n by omega, show a' + n - a' = n by omega]
  apply List.ext_getElem (by simp)
  intro i h1 h2
  simp at h1
  simp [h i h1]
theorem seg_congr (d d' : Array α) (a b : Nat) (h : ∀ i, a ≤ i → i < b → d'[i]! = d[i]!) : seg d' a b = seg d a b := by
  by_cases hab : a ≤ b
  · obtain ⟨n, rfl⟩ := Nat.exists_eq_add_of_le hab
    exact seg_shift d d' a a n fun i hi => h _ (by omega) (by omega)
  · rw [seg_empty _ _ _ (by omega), seg_empty _ _ _ (by omega)]
theorem mem_seg (d : Array α) (a b : Nat) (x : α) : x ∈ seg d a b ↔ ∃ i, a ≤ i ∧ i < b ∧ d[i]! = x := by
  unfold seg
  simp only [List.mem_map, List.mem_range'_1]
  constructor
  · rintro ⟨i, ⟨h1, h2⟩, h3⟩; exact ⟨i, h1, by omega, h3⟩
  · rintro ⟨i, h1, h2, h3⟩; exact ⟨i, ⟨h1, by omega⟩, h3⟩
theorem seg_toList (d : Array α) : seg d 0 d.size = d.toList := by
  unfold seg
  apply List.ext_getElem (by simp)
  intro i h1 h2
  simp at h1 h2
  simp [h1]
structure StabIn (lt : α → α → Bool) (a b : Nat) (d d' : Array α) : Prop where
  size : d'.size = d.size
  out : ∀ i, i < a ∨ b ≤ i → d'[i]! = d[i]!
  fil : ∀ x, (seg d' a b).filter (eqv lt x) = (seg d a b).filter (eqv lt x)
variable {lt : α → α → Bool}
theorem StabIn.refl (a b : Nat) (d : Array α) : StabIn lt a b d d := ⟨rfl, fun _ _ => rfl, fun _ => rfl⟩
theorem StabIn.trans {a b : Nat} {d d' d'' : Array α} (h : StabIn lt a b d d') (k : StabIn lt a b d' d'') : StabIn lt a b d d'' :=
  ⟨k.size.trans h.size, fun i hi => (k.out i hi).trans (h.out i hi), fun x => (k.fil x).trans (h.fil x)⟩
theorem StabIn.mono {a b a' b' : Nat} {d d' : Array α} (h : StabIn lt a b d d') (ha : a' ≤ a) (hab : a ≤ b) (hb : b ≤ b') : StabIn lt a' b' d d' := by
  refine ⟨h.size, fun i hi => h.out i (by omega), fun x => ?_⟩
  rw [seg_append d' a' a b' ha (by omega), seg_append d' a b b' hab hb, seg_append d a' a b' ha (by omega), seg_append d a b b' hab hb]
  simp only [List.filter_append, h.fil]
  rw [seg_congr d d' a' a fun i h1 h2 => h.out i (by omega), seg_congr d d' b b' fun i h1 h2 => h.out i (by omega)]
theorem StabIn.all (hS : SWO lt) {a b : Nat} {d d' : Array α} (h : StabIn lt a b d d') (p : α → Prop) (hp : ∀ i, a ≤ i → i < b → p d[i]!) : ∀ i, a ≤ i → i < b → p d'[i]! := by
  intro i h1 h2
  have m : d'[i]! ∈ (seg d' a b).filter (eqv lt d'[i]!) := by
    rw [List.mem_filter]; exact ⟨(mem_seg _ _ _ _).2 ⟨i, h1, h2, rfl⟩, eqv_self hS _⟩
  rw [h.fil, List.mem_filter, mem_seg] at m
  obtain ⟨⟨j, j1, j2, j3⟩, _⟩ := m
  rw [← j3]; exact hp j j1 j2
def rotIdx (a m b t : Nat) : Nat := if a ≤ t ∧ t < a + (b - m) then t - a + m else if a + (b - m) ≤ t ∧ t < b then t - (b - m) else t
def perm (d : Array α) (f : Nat → Nat) : Array α := (Array.range d.size).map fun t => d[f t]!
@[simp] theorem size_perm (d : Array α) (f : Nat → Nat) : (perm d f).size = d.size := by simp [perm]
theorem get_perm (d : Array α) (f : Nat → Nat) (t : Nat) (h : t < d.size) : (perm d f)[t]! = d[f t]! := by
  simp [perm, h]
theorem get_out (d : Array α) (t : Nat) (h : d.size ≤ t) : d[t]! = default := by
  simp [h]
theorem ext! {d e : Array α} (hs : d.size = e.size) (h : ∀ t, t < d.size → d[t]! = e[t]!) : d = e :=
  Array.ext hs fun t h1 h2 => by have := h t h1; rwa [getElem!_pos d t h1, getElem!_pos e t h2] at this
def rotA (d : Array α) (a m b : Nat) : Array α := perm d (rotIdx a m b)
@[simp] theorem size_rotA (d : Array α) (a m b : Nat) : (rotA d a m b).size = d.size := by simp [rotA]
theorem get_rotA (d : Array α) (a m b t : Nat) (hb : b ≤ d.size) (ham : a ≤ m) : (rotA d a m b)[t]! = d[rotIdx a m b t]! := by
  by_cases h : t < d.size
  · exact get_perm _ _ _ h
  · rw [get_out _ _ (by simpa using h)]
    unfold rotIdx
    by_cases h1 : a ≤ t ∧ t < a + (b - m)
    · rw [if_pos h1, get_out _ _ (by omega)]
    · rw [if_neg h1, if_neg (by omega), get_out _ _ (by omega)]
theorem rotA_id_left (d : Array α) (m b : Nat) : rotA d m m b = d := by
  refine ext! (by simp) fun t ht => ?_
  rw [rotA, get_perm _ _ _ (by simpa using ht)]
  unfold rotIdx
  by_cases h1 : m ≤ t ∧ t < m + (b - m)
  · rw [if_pos h1, show t - m + m = t by omega]
  · rw [if_neg h1, if_neg (by omega)]
theorem rotA_id_right (d : Array α) (a m : Nat) : rotA d a m m = d := by
  refine ext! (by simp) fun t ht => ?_
  rw [rotA, get_perm _ _ _ (by simpa using ht)]
  unfold rotIdx
  by_cases h1 : a ≤ t ∧ t < a + (m - m)
  · omega
  · rw [if_neg h1]
    by_cases h2 : a + (m - m) ≤ t ∧ t < m
    · rw [if_pos h2, show t - (m - m) = t by omega]
    · rw [if_neg h2]
theorem seg_rotA_left (d : Array α) (a m b : Nat) (h1 : a ≤ m) (h2 : m ≤ b) (hb : b ≤ d.size) : seg (rotA d a m b) a (a + (b - m)) = seg d m b := by
  have := seg_shift d (rotA d a m b) a m (b - m) fun i hi => by
    rw [get_rotA _ _ _ _ _ hb (by omega), rotIdx, if_pos ⟨by omega, by omega⟩, show a + i - a + m = m + i by omega]
  rwa [show m + (b - m) = b by omega] at this
theorem seg_rotA_right (d : Array α) (a m b : Nat) (h1 : a ≤ m) (h2 : m ≤ b) (hb : b ≤ d.size) : seg (rotA d a m b) (a + (b - m)) b = seg d a m := by
  have := seg_shift d (rotA d a m b) (a + (b - m)) a (m - a) fun i hi => by
    rw [get_rotA _ _ _ _ _ hb (by omega), rotIdx, if_neg (by omega), if_pos ⟨by omega, by omega⟩, show a + (b - m) + i - (b - m) = a + i by omega]
  rwa [show a + (b - m) + (m - a) = b by omega, show a + (m - a) = m by omega] at this
theorem stab_rot (hS : SWO lt) (d : Array α) (a m b : Nat) (h1 : a ≤ m) (h2 : m ≤ b) (hb : b ≤ d.size)
    (h : ∀ p q, a ≤ p → p < m → m ≤ q → q < b → lt d[q]! d[p]! = true) : StabIn lt a b d (rotA d a m b) := by
  refine ⟨by simp, fun i hi => ?_, fun x => ?_⟩
  · rw [get_rotA _ _ _ _ _ hb (by omega), rotIdx, if_neg (by omega), if_neg (by omega)]
  · rw [seg_append (rotA d a m b) a (a + (b - m)) b (by omega) (by omega), seg_rotA_left d a m b h1 h2 hb, seg_rotA_right d a m b h1 h2 hb, seg_append d a m b h1 h2]
    refine filter_comm hS _ _ (fun x hx y hy => ?_) x
    rw [mem_seg] at hx hy
    obtain ⟨p, p1, p2, rfl⟩ := hx
    obtain ⟨q, q1, q2, rfl⟩ := hy
    exact h p q p1 p2 q1 q2
theorem swp_rot (d : Array α) (j : Nat) (h : j + 1 < d.size) : swp d (j + 1) j = rotA d j (j + 1) (j + 2) := by
  refine ext! (by simp [swp_size]) fun t ht => ?_
  rw [swp_get d h (by omega), get_rotA _ _ _ _ _ (by omega) (by omega), rotIdx]
  rw [swp_size] at ht
  by_cases h1 : t = j
  · subst h1; rw [if_pos rfl, if_pos ⟨by omega, by omega⟩]; congr 1; omega
  · rw [if_neg h1]
    by_cases h2 : t = j + 1
    · subst h2; rw [if_pos rfl, if_neg (by omega), if_pos ⟨by omega, by omega⟩]; congr 1; omega
    · rw [if_neg h2, if_neg (by omega), if_neg (by omega)]
theorem stab_swp (hS : SWO lt) (d : Array α) (a b j : Nat) (ha : a ≤ j) (hb : j + 1 < b) (hbs : b ≤ d.size) (h : lt d[j + 1]! d[j]! = true) : StabIn lt a b d (swp d (j + 1) j) := by
  rw [swp_rot d j (by omega)]
  refine (stab_rot hS d j (j + 1) (j + 2) (by omega) (by omega) (by omega) fun p q p1 p2 q1 q2 => ?_).mono ha (by omega) (by omega)
  obtain rfl : p = j := by omega
  obtain rfl : q = p + 1 := by omega
  exact h
theorem insInner_stab (hS : SWO lt) (a b : Nat) : ∀ (j : Nat) (d : Array α), a ≤ j → j < b → b ≤ d.size → StabIn lt a b d (insInner lt a j d)
  | 0, d, _, _, _ => by unfold insInner; exact StabIn.refl _ _ _
  | j + 1, d, h1, h2, h3 => by
    unfold insInner
    split
    · rename_i hc
      simp only [Bool.and_eq_true, decide_eq_true_eq] at hc
      have s := stab_swp hS d a b j (by omega) h2 h3 hc.2
      exact s.trans (insInner_stab hS a b j _ (by omega) (by omega) (by rw [swp_size]; exact h3))
    · exact StabIn.refl _ _ _
theorem insOuter_stab (hS : SWO lt) (a b : Nat) : ∀ (n i : Nat) (d : Array α), b - i = n → a < i → b ≤ d.size → StabIn lt a b d (insOuter lt a b i d)
  | 0, i, d, hn, _, _ => by rw [insOuter, if_neg (by omega)]; exact StabIn.refl _ _ _
  | n + 1, i, d, hn, h1, h3 => by
    rw [insOuter, if_pos (by omega)]
    have s := insInner_stab hS a b i d (by omega) (by omega) h3
    exact s.trans (insOuter_stab hS a b n (i + 1) _ (by omega) (by omega) (by rw [s.size]; exact h3))
theorem insertionSort_stab (hS : SWO lt) (d : Array α) (a b : Nat) (hab : a ≤ b) (hb : b ≤ d.size) : StabIn lt a b d (insertionSort lt d a b) ∧ SortedIn lt a b (insertionSort lt d a b) :=
  ⟨insOuter_stab hS a b _ (a + 1) d rfl (by omega) hb, (insertionSort_holds hS d a b hab hb).2⟩
def swIdx (a b n t : Nat) : Nat := if a ≤ t ∧ t < a + n then t - a + b else if b ≤ t ∧ t < b + n then t - b + a else t
def swR (d : Array α) (a b n : Nat) : Array α := perm d (swIdx a b n)
@[simp] theorem size_swR (d : Array α) (a b n : Nat) : (swR d a b n).size = d.size := by simp [swR]
theorem get_swR (d : Array α) (a b n t : Nat) (h : t < d.size) : (swR d a b n)[t]! = d[swIdx a b n t]! := get_perm _ _ _ h
theorem swR_zero (d : Array α) (a b : Nat) : swR d a b 0 = d := by
  refine ext! (by simp) fun t ht => ?_
  rw [get_swR _ _ _ _ _ (by simpa using ht), swIdx, if_neg (by omega), if_neg (by omega)]
theorem swR_succ (d : Array α) (a b n : Nat) (h : a + n < b) (hb : b + n < d.size) (hab : a + n < d.size) : swp (swR d a b n) (a + n) (b + n) = swR d a b (n + 1) := by
  refine ext! (by simp [swp_size]) fun t ht => ?_
  rw [swp_size, size_swR] at ht
  rw [swp_get _ (by simpa using hab) (by simpa using hb), get_swR _ _ _ _ _ hab, get_swR _ _ _ _ _ hb, get_swR _ _ _ _ _ ht, get_swR _ _ _ _ _ ht]
  by_cases h1 : t = b + n
  · subst h1
    rw [if_pos rfl]; unfold swIdx
    rw [if_neg (by omega), if_neg (by omega), if_neg (by omega), if_pos (by omega)]; congr 1; omega
  · rw [if_neg h1]
    by_cases h2 : t = a + n
    · subst h2
      rw [if_pos rfl]; unfold swIdx
      rw [if_neg (by omega), if_neg (by omega), if_pos (by omega)]; congr 1; omega
    · rw [if_neg h2]; unfold swIdx
      by_cases h3 : a ≤ t ∧ t < a + n
      · rw [if_pos h3, if_pos (by omega)]
      · rw [if_neg h3, if_neg (show ¬ (a ≤ t ∧ t < a + (n + 1)) by omega)]
        by_cases h4 : b ≤ t ∧ t < b + n
        · rw [if_pos h4, if_pos (by omega)]
        · rw [if_neg h4, if_neg (by omega)]
theorem rot_gt (d : Array α) (m i j : Nat) (hi : i ≤ m) (hj : m + j ≤ d.size) (h : j < i) :
    rotA (swR d (m - i) m j) (m - (i - j)) m (m + j) = rotA d (m - i) m (m + j) := by
  refine ext! (by simp) fun t ht => ?_
  simp at ht
  rw [get_rotA _ _ _ _ _ (by simpa using hj) (by omega), get_rotA _ _ _ _ _ hj (by omega)]
  by_cases hx : rotIdx (m - (i - j)) m (m + j) t < d.size
  · rw [get_swR _ _ _ _ _ hx]
    congr 1
    unfold swIdx rotIdx
    repeat' split
    all_goals omega
  · exfalso; apply hx; unfold rotIdx; repeat' split
    all_goals omega
theorem rot_lt (d : Array α) (m i j : Nat) (hi : i ≤ m) (hj : m + j ≤ d.size) (h : i < j) :
    rotA (swR d (m - i) (m + j - i) i) (m - i) m (m + (j - i)) = rotA d (m - i) m (m + j) := by
  refine ext! (by simp) fun t ht => ?_
  simp at ht
  rw [get_rotA _ _ _ _ _ (by simp; omega) (by omega), get_rotA _ _ _ _ _ hj (by omega)]
  by_cases hx : rotIdx (m - i) m (m + (j - i)) t < d.size
  · rw [get_swR _ _ _ _ _ hx]
    congr 1
    unfold swIdx rotIdx
    repeat' split
    all_goals omega
  · exfalso; apply hx; unfold rotIdx; repeat' split
    all_goals omega
theorem rot_eq (d : Array α) (m i : Nat) (hi : i ≤ m) (hj : m + i ≤ d.size) : swR d (m - i) m i = rotA d (m - i) m (m + i) := by
  refine ext! (by simp) fun t ht => ?_
  simp at ht
  rw [get_rotA _ _ _ _ _ hj (by omega), get_swR _ _ _ _ _ ht]
  congr 1
  unfold swIdx rotIdx
  repeat' split
  all_goals omega
theorem chain_up (d : Array α) (a k : Nat) (h : a ≤ k) (hk : k + 1 < d.size) : swp (rotA d a (a + 1) (k + 1)) k (k + 1) = rotA d a (a + 1) (k + 2) := by
  refine ext! (by simp [swp_size]) fun t ht => ?_
  rw [swp_size, size_rotA] at ht
  rw [swp_get _ (by simp; omega) (by simpa using hk), get_rotA _ _ _ _ _ (by omega) (by omega), get_rotA _ _ _ _ _ (by omega) (by omega), get_rotA _ _ _ _ _ (by omega) (by omega), get_rotA _ _ _ _ _ (by omega) (by omega)]
  by_cases h1 : t = k + 1
  · subst h1; rw [if_pos rfl]; congr 1; unfold rotIdx; repeat' split
    all_goals omega
  · rw [if_neg h1]
    by_cases h2 : t = k
    · subst h2; rw [if_pos rfl]; congr 1; unfold rotIdx; repeat' split
      all_goals omega
    · rw [if_neg h2]; congr 1; unfold rotIdx; repeat' split
      all_goals omega
theorem chain_down (d : Array α) (k m : Nat) (h : k + 1 ≤ m) (hk : m < d.size) : swp (rotA d (k + 1) m (m + 1)) (k + 1) k = rotA d k m (m + 1) := by
  refine ext! (by simp [swp_size]) fun t ht => ?_
  rw [swp_size, size_rotA] at ht
  rw [swp_get _ (by simp; omega) (by simp; omega), get_rotA _ _ _ _ _ (by omega) (by omega), get_rotA _ _ _ _ _ (by omega) (by omega), get_rotA _ _ _ _ _ (by omega) (by omega), get_rotA _ _ _ _ _ (by omega) (by omega)]
  by_cases h1 : t = k
  · subst h1; rw [if_pos rfl]; congr 1; unfold rotIdx; repeat' split
    all_goals omega
  · rw [if_neg h1]
    by_cases h2 : t = k + 1
    · subst h2; rw [if_pos rfl]; congr 1; unfold rotIdx; repeat' split
      all_goals omega
    · rw [if_neg h2]; congr 1; unfold rotIdx; repeat' split
      all_goals omega
theorem sorted_congr {a b : Nat} {d d' : Array α} (h : SortedIn lt a b d) (he : ∀ p, a ≤ p → p < b → d'[p]! = d[p]!) : SortedIn lt a b d' := by
  intro p q hp hpq hq
  rw [he p hp (by omega), he q (by omega) hq]
  exact h p q hp hpq hq
theorem sorted_shift {a a' n : Nat} {d d' : Array α} (h : SortedIn lt a' (a' + n) d) (he : ∀ i, i < n → d'[a + i]! = d[a' + i]!) : SortedIn lt a (a + n) d' := by
  intro p q hp hpq hq
  have e1 := he (p - a) (by omega)
  have e2 := he (q - a) (by omega)
  rw [show a + (p - a) = p by omega] at e1
  rw [show a + (q - a) = q by omega] at e2
  rw [e1, e2]
  exact h _ _ (by omega) (by omega) (by omega)
theorem sorted_join {a m b : Nat} {d : Array α} (h1 : SortedIn lt a m d) (h2 : SortedIn lt m b d) (h : ∀ p q, a ≤ p → p < m → m ≤ q → q < b → lt d[q]! d[p]! = false) : SortedIn lt a b d := by
  intro p q hp hpq hq
  by_cases c : q < m
  · exact h1 p q hp hpq c
  · by_cases e : p < m
    · exact h p q hp e (by omega) hq
    · exact h2 p q (by omega) hpq hq
theorem sorted_sub {a b a' b' : Nat} {d : Array α} (h : SortedIn lt a b d) (ha : a ≤ a') (hb : b' ≤ b) : SortedIn lt a' b' d :=
  fun p q hp hpq hq => h p q (by omega) hpq (by omega)
theorem rot_split (hS : SWO lt) (d : Array α) (a s m e b : Nat) (h1 : a ≤ s) (h2 : s ≤ m) (h3 : m ≤ e) (h4 : e ≤ b) (hb : b ≤ d.size)
    (sA : SortedIn lt a m d) (sB : SortedIn lt m b d)
    (hlt : s < m → m < e → lt d[e - 1]! d[s]! = true)
    (hle : a < s → e < b → lt d[e]! d[s - 1]! = false) :
    StabIn lt a b d (rotA d s m e) ∧ SortedIn lt a s (rotA d s m e) ∧ SortedIn lt s (s + (e - m)) (rotA d s m e) ∧ SortedIn lt (s + (e - m)) e (rotA d s m e) ∧ SortedIn lt e b (rotA d s m e) ∧
    (∀ p q, a ≤ p → p < s + (e - m) → s + (e - m) ≤ q → q < b → lt (rotA d s m e)[q]! (rotA d s m e)[p]! = false) := by
  have strict : ∀ p q, s ≤ p → p < m → m ≤ q → q < e → lt d[q]! d[p]! = true := by
    intro p q p1 p2 q1 q2
    have h0 := hlt (by omega) (by omega)
    have l1 : lt d[e - 1]! d[q]! = false := by
      by_cases c : q = e - 1
      · subst c; exact hS.irrefl _
      · exact sB q (e - 1) q1 (by omega) (by omega)
    have l2 : lt d[p]! d[s]! = false := by
      by_cases c : p = s
      · subst c; exact hS.irrefl _
      · exact sA s p (by omega) (by omega) p2
    cases hc : lt d[q]! d[p]! with
    | true => rfl
    | false =>
      have := hS.ntrans _ _ _ (hS.ntrans _ _ _ l1 hc) l2
      rw [h0] at this; cases this
  have lo : ∀ t, t < s → (rotA d s m e)[t]! = d[t]! := fun t ht => by rw [get_rotA _ _ _ _ _ (by omega) (by omega), rotIdx, if_neg (by omega), if_neg (by omega)]
  have hi : ∀ t, e ≤ t → (rotA d s m e)[t]! = d[t]! := fun t ht => by rw [get_rotA _ _ _ _ _ (by omega) (by omega), rotIdx, if_neg (by omega), if_neg (by omega)]
  have m1 : ∀ i, i < e - m → (rotA d s m e)[s + i]! = d[m + i]! := fun i hi => by
    rw [get_rotA _ _ _ _ _ (by omega) (by omega), rotIdx, if_pos (by omega)]; congr 1; omega
  have m2 : ∀ i, i < m - s → (rotA d s m e)[s + (e - m) + i]! = d[s + i]! := fun i hi => by
    rw [get_rotA _ _ _ _ _ (by omega) (by omega), rotIdx, if_neg (by omega), if_pos (by omega)]; congr 1; omega
  refine ⟨(stab_rot hS d s m e h2 h3 (by omega) strict).mono h1 (by omega) h4, sorted_congr (sorted_sub sA (Nat.le_refl _) h2) fun p _ hp => lo p hp,
    sorted_shift (sorted_sub sB (Nat.le_refl _) (by omega)) m1, ?_, sorted_congr (sorted_sub sB h3 (Nat.le_refl _)) fun p hp _ => hi p hp, ?_⟩
  · have := sorted_shift (lt := lt) (a := s + (e - m)) (a' := s) (n := m - s) (d := d) (d' := rotA d s m e) (sorted_sub sA h1 (by omega)) m2
    rwa [show s + (e - m) + (m - s) = e by omega] at this
  · intro p q p1 p2 q1 q2
    -- where they come from
    have hp : (p < s ∧ (rotA d s m e)[p]! = d[p]!) ∨ ∃ i, i < e - m ∧ (rotA d s m e)[p]! = d[m + i]! := by
      by_cases c : p < s
      · exact Or.inl ⟨c, lo p c⟩
      · refine Or.inr ⟨p - s, by omega, ?_⟩
        have := m1 (p - s) (by omega)
        rwa [show s + (p - s) = p by omega] at this
    have hq : (e ≤ q ∧ (rotA d s m e)[q]! = d[q]!) ∨ ∃ i, i < m - s ∧ (rotA d s m e)[q]! = d[s + i]! := by
      by_cases c : e ≤ q
      · exact Or.inl ⟨c, hi q c⟩
      · refine Or.inr ⟨q - (s + (e - m)), by omega, ?_⟩
        have := m2 (q - (s + (e - m))) (by omega)
        rwa [show s + (e - m) + (q - (s + (e - m))) = q by omega] at this
    rcases hp with ⟨pc, pe⟩ | ⟨i, ic, pe⟩ <;> rcases hq with ⟨qc, qe⟩ | ⟨j, jc, qe⟩ <;> rw [pe, qe]
    · -- A1, B2
      have l0 := hle (by omega) (by omega)
      have l1 : lt d[q]! d[e]! = false := by
        by_cases c : q = e
        · subst c; exact hS.irrefl _
        · exact sB e q (by omega) (by omega) q2
      have l2 : lt d[s - 1]! d[p]! = false := by
        by_cases c : p = s - 1
        · subst c; exact hS.irrefl _
        · exact sA p (s - 1) p1 (by omega) (by omega)
      exact hS.ntrans _ _ _ (hS.ntrans _ _ _ l1 l0) l2
    · exact sA p (s + j) p1 (by omega) (by omega)
    · exact sB (m + i) q (by omega) (by omega) q2
    · exact hS.asymmA (strict (s + j) (m + i) (by omega) (by omega) (by omega) (by omega))
theorem halves (hS : SWO lt) (d d1 d2 d3 : Array α) (a mid b : Nat) (h1 : a ≤ mid) (h2 : mid ≤ b)
    (s1 : StabIn lt a b d d1) (c : ∀ p q, a ≤ p → p < mid → mid ≤ q → q < b → lt d1[q]! d1[p]! = false)
    (s2 : StabIn lt a mid d1 d2) (o2 : SortedIn lt a mid d2) (s3 : StabIn lt mid b d2 d3) (o3 : SortedIn lt mid b d3) :
    StabIn lt a b d d3 ∧ SortedIn lt a b d3 := by
  refine ⟨(s1.trans (s2.mono (Nat.le_refl _) h1 h2)).trans (s3.mono h1 h2 (Nat.le_refl _)), sorted_join (m := mid) (sorted_congr o2 fun p _ hp => s3.out p (Or.inl hp)) o3 ?_⟩
  intro p q p1 p2 q1 q2
  refine s3.all hS (fun y => lt y d3[p]! = false) (fun q q1 q2 => ?_) q q1 q2
  rw [s3.out p (Or.inl p2), s2.out q (Or.inr q1)]
  exact s2.all hS (fun x => lt d1[q]! x = false) (fun p p1 p2 => c p q p1 p2 q1 q2) p p1 p2
theorem one_left (hS : SWO lt) (d : Array α) (a i b : Nat) (hi : a + 1 ≤ i) (hib : i ≤ b) (hb : b ≤ d.size) (sB : SortedIn lt (a + 1) b d)
    (h1 : ∀ h, a + 1 ≤ h → h < i → lt d[h]! d[a]! = true) (h2 : ∀ h, i ≤ h → h < b → lt d[h]! d[a]! = false) :
    StabIn lt a b d (rotA d a (a + 1) i) ∧ SortedIn lt a b (rotA d a (a + 1) i) := by
  have g : ∀ t, (rotA d a (a + 1) i)[t]! = d[rotIdx a (a + 1) i t]! := fun t => get_rotA _ _ _ _ _ (by omega) (by omega)
  refine ⟨(stab_rot hS d a (a + 1) i (by omega) hi (by omega) fun p q p1 p2 q1 q2 => ?_).mono (Nat.le_refl _) (by omega) hib, ?_⟩
  · obtain rfl : p = a := by omega
    exact h1 q q1 q2
  · intro p q p1 pq q2
    rw [g, g]
    have ep : (p < i - 1 ∧ rotIdx a (a + 1) i p = p + 1) ∨ (p = i - 1 ∧ rotIdx a (a + 1) i p = a) ∨ (i ≤ p ∧ rotIdx a (a + 1) i p = p) := by
      unfold rotIdx; repeat' split
      all_goals omega
    have eq : (q < i - 1 ∧ rotIdx a (a + 1) i q = q + 1) ∨ (q = i - 1 ∧ rotIdx a (a + 1) i q = a) ∨ (i ≤ q ∧ rotIdx a (a + 1) i q = q) := by
      unfold rotIdx; repeat' split
      all_goals omega
    rcases ep with ⟨c, e⟩ | ⟨c, e⟩ | ⟨c, e⟩ <;> rcases eq with ⟨c', e'⟩ | ⟨c', e'⟩ | ⟨c', e'⟩ <;> rw [e, e'] <;> first | omega | skip
    · exact sB _ _ (by omega) (by omega) (by omega)
    · exact hS.asymmA (h1 _ (by omega) (by omega))
    · exact sB _ _ (by omega) (by omega) (by omega)
    · exact h2 _ (by omega) q2
    · exact sB _ _ (by omega) (by omega) (by omega)
theorem one_right (hS : SWO lt) (d : Array α) (a i m : Nat) (hi : a ≤ i) (him : i ≤ m) (hb : m + 1 ≤ d.size) (sA : SortedIn lt a m d)
    (h1 : ∀ h, a ≤ h → h < i → lt d[m]! d[h]! = false) (h2 : ∀ h, i ≤ h → h < m → lt d[m]! d[h]! = true) :
    StabIn lt a (m + 1) d (rotA d i m (m + 1)) ∧ SortedIn lt a (m + 1) (rotA d i m (m + 1)) := by
  have g : ∀ t, (rotA d i m (m + 1))[t]! = d[rotIdx i m (m + 1) t]! := fun t => get_rotA _ _ _ _ _ (by omega) (by omega)
  refine ⟨(stab_rot hS d i m (m + 1) him (by omega) hb fun p q p1 p2 q1 q2 => ?_).mono hi (by omega) (Nat.le_refl _), ?_⟩
  · obtain rfl : q = m := by omega
    exact h2 p p1 p2
  · intro p q p1 pq q2
    rw [g, g]
    have ep : (p < i ∧ rotIdx i m (m + 1) p = p) ∨ (p = i ∧ rotIdx i m (m + 1) p = m) ∨ (i < p ∧ rotIdx i m (m + 1) p = p - 1) := by
      unfold rotIdx; repeat' split
      all_goals omega
    have eq : (q < i ∧ rotIdx i m (m + 1) q = q) ∨ (q = i ∧ rotIdx i m (m + 1) q = m) ∨ (i < q ∧ rotIdx i m (m + 1) q = q - 1) := by
      unfold rotIdx; repeat' split
      all_goals omega
    rcases ep with ⟨c, e⟩ | ⟨c, e⟩ | ⟨c, e⟩ <;> rcases eq with ⟨c', e'⟩ | ⟨c', e'⟩ | ⟨c', e'⟩ <;> rw [e, e'] <;> first | omega | skip
    · exact sA _ _ (by omega) (by omega) (by omega)
    · exact h1 _ p1 (by omega)
    · exact sA _ _ (by omega) (by omega) (by omega)
    · exact hS.asymmA (h2 _ (by omega) (by omega))
    · exact sA _ _ (by omega) (by omega) (by omega)
theorem sortedIn_pairwise {d : Array α} (h : SortedIn lt 0 d.size d) : d.toList.Pairwise (fun x y => lt y x = false) := by
  rw [List.pairwise_iff_getElem]
  intro i j hi hj hij
  have := h i j (by omega) hij (by simpa using hj)
  simp at hi hj
  rwa [getElem!_pos d i hi, getElem!_pos d j hj] at this
structure Cut (lt : α → α → Bool) (d : Array α) (s0 r0 p s r : Nat) : Prop where
  lo : ∀ c, s0 ≤ c → c < s → lt d[p - c]! d[c]! = false
  hi : ∀ c, r ≤ c → c < r0 → lt d[p - c]! d[c]! = true
theorem Cut.down (hS : SWO lt) {d : Array α} {a m b s0 r0 p s r c : Nat} (h : Cut lt d s0 r0 p s r) (sA : SortedIn lt a m d) (sB : SortedIn lt m b d) (h0 : a ≤ s0) (hr0 : r0 ≤ m) (hp : p - s0 < b) (hm : m + r0 ≤ p + 1)
    (hc : lt d[p - c]! d[c]! = false) (_hsc : s ≤ c) (hcr : c < r) (hrr : r ≤ r0) : Cut lt d s0 r0 p (c + 1) r := by
  refine ⟨fun c' h1 h2 => ?_, h.hi⟩
  by_cases e : c' = c
  · subst e; exact hc
  · have l1 : lt d[p - c']! d[p - c]! = false := sB _ _ (by omega) (by omega) (by omega)
    have l2 : lt d[c]! d[c']! = false := sA _ _ (by omega) (by omega) (by omega)
    exact hS.ntrans _ _ _ (hS.ntrans _ _ _ l1 hc) l2
theorem Cut.up (hS : SWO lt) {d : Array α} {a m b s0 r0 p s r c : Nat} (h : Cut lt d s0 r0 p s r) (sA : SortedIn lt a m d) (sB : SortedIn lt m b d) (h0 : a ≤ s0) (hr0 : r0 ≤ m) (hp : p - s0 < b) (hm : m + r0 ≤ p + 1)
    (hc : lt d[p - c]! d[c]! = true) (hsc : s0 ≤ c) (hcr : c < r0) : Cut lt d s0 r0 p s c := by
  refine ⟨h.lo, fun c' h1 h2 => ?_⟩
  by_cases e : c' = c
  · subst e; exact hc
  · have l1 : lt d[p - c]! d[p - c']! = false := sB _ _ (by omega) (by omega) (by omega)
    have l2 : lt d[c']! d[c]! = false := sA _ _ (by omega) (by omega) (by omega)
    cases x : lt d[p - c']! d[c']! with
    | true => rfl
    | false =>
      have := hS.ntrans _ _ _ (hS.ntrans _ _ _ l1 x) l2
      rw [hc] at this; cases this
def Blocks (lt : α → α → Bool) (bs a b : Nat) (d : Array α) : Prop := ∀ i j, a ≤ i → i < j → j < b → i / bs = j / bs → lt d[j]! d[i]! = false
theorem blocks_stab {a b bs : Nat} {lo hi : Nat} {d d' : Array α} (h : Blocks lt bs lo hi d) (s : StabIn lt a b d d') (ho : hi ≤ a ∨ b ≤ lo) : Blocks lt bs lo hi d' := by
  intro i j h1 h2 h3 h4
  rw [s.out i (by omega), s.out j (by omega)]
  exact h i j h1 h2 h3 h4
theorem blocks_snoc {a b bs : Nat} {d : Array α} (q : Nat) (ha : a = q * bs) (h : Blocks lt bs 0 a d) (hs : SortedIn lt a b d) : Blocks lt bs 0 b d := by
  intro i j h1 h2 h3 h4
  by_cases c : j < a
  · exact h i j h1 h2 c h4
  · by_cases e : i < a
    · exfalso
      have k0 : 0 < bs := by
        rcases Nat.eq_zero_or_pos bs with z | z
        · subst z; simp at ha; omega
        · exact z
      have : i / bs < q := by rw [Nat.div_lt_iff_lt_mul k0]; omega
      have : q ≤ j / bs := by rw [Nat.le_div_iff_mul_le k0]; omega
      omega
    · exact hs i j (by omega) h2 h3
theorem blocks_sorted {a b bs : Nat} {lo hi : Nat} {d : Array α} (q : Nat) (ha : a = q * bs) (hb : b ≤ a + bs) (hlo : lo ≤ a) (hhi : b ≤ hi) (h : Blocks lt bs lo hi d) : SortedIn lt a b d := by
  intro i j h1 h2 h3
  have k0 : 0 < bs := by omega
  refine h i j (by omega) h2 (by omega) ?_
  have e : ∀ t, a ≤ t → t < b → t / bs = q := fun t t1 t2 => by
    apply Nat.div_eq_of_lt_le
    · omega
    · rw [Nat.add_mul]; omega
  rw [e i h1 (by omega), e j (by omega) h3]
end Go.Sst
