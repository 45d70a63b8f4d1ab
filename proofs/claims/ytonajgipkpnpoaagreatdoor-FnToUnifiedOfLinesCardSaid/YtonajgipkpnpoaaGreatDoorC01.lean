/- The plain law of the ways' meeting, and of fix. The plain law of lines: a text's lines, places at the ends of lines, texts by their lines. The plain law of hunks: what edits by lines make, and what a reader makes of their hunks. The plain law of edits that are made whole lines. The text of hunks. -/
import Derived.Test.YtonajgipkpnpoaaGreatDoorC00
import Derived.Lib.ItoaNum
namespace Go.Myers
variable {E : Nat → Nat → Bool} {N M : Nat}
theorem Before2.sums {df db : Nat} {k : Int} (h : Before2 E N M df db) (hf : valid df k) (hb : valid db (k - ((N : Int) - M))) :
    0 ≤ lab E N ((N : Int) - M) db (k - ((N : Int) - M)) + (lab E N ((N : Int) - M) db (k - ((N : Int) - M)) - k) ∧ flab E N M df k + (flab E N M df k - k) ≤ (N : Int) + M := by
  have h1 := sum_nn (E := E) (N := N) (M := M) (dl := (N : Int) - M) rfl db (open_back h) _ hb
  have h2 := sum_nn (E := mir E N M) (N := N) (M := M) (dl := (N : Int) - M) rfl df (open_fwd h) _ (valid_neg hf)
  unfold sm at h1 h2
  unfold flab
  constructor <;> omega
theorem chain_two {a b : Int} (l1 l2 : List Dg) {u v : Int} (ha0 : 0 ≤ a) (hb0 : 0 ≤ b) (ha : a ≤ u) (hb : b ≤ v) (hu : u ≤ N) (hv : v ≤ M) (h1 : Chain E a.toNat b.toNat l1 0 0) (h2 : Chain E N M l2 u v) : Chain E N M (l1 ++ l2) 0 0 := by
  obtain ⟨a, rfl⟩ : ∃ n : Nat, a = n := ⟨a.toNat, by omega⟩
  obtain ⟨b, rfl⟩ : ∃ n : Nat, b = n := ⟨b.toNat, by omega⟩
  exact chain_concat l1 l2 0 0 (by omega) (by omega) h1 (chain_mono l2 u v a b ha hb h2) (by simp; omega) (by simp; omega)
structure Fx (E : Nat → Nat → Bool) (N M : Nat) (t : List Dg) : Prop where
  good : ∀ d ∈ t, Good E N M d
  sep : t.Pairwise Sep
theorem Fx.one {d : Dg} (h : Good E N M d) : Fx E N M [d] := ⟨fun e he => by simp at he; rw [he]; exact h, List.pairwise_singleton _ _⟩
theorem Fx.snoc {t : List Dg} {q : Dg} (h : Fx E N M t) (hq : Good E N M q) (hs : ∀ e ∈ t, Sep q e) : Fx E N M (t ++ [q]) :=
  ⟨fun d hd => (List.mem_append.1 hd).elim (h.good d) (fun hd => by simp at hd; rw [hd]; exact hq),
    List.pairwise_append.2 ⟨h.sep, List.pairwise_singleton _ _, fun a ha b hb => by simp at hb; rw [hb]; exact (hs a ha).symm⟩⟩
theorem Fx.chain {t t' : List Dg} (h : Fx E N M t) (hp : t.Perm t') (hx : t'.Pairwise (fun a b => a.x ≤ b.x)) : Chain E N M t' 0 0 :=
  chain_of t' 0 0 (fun d hd => by have g := h.good d (hp.mem_iff.2 hd); exact ⟨g, g.1, g.2.1⟩) ((hp.pairwise_iff (fun h => Sep.symm h)).1 h.sep) hx
theorem Good.bnd {d : Dg} (h : Good E N M d) (hN : N ≤ 1000000) (hM : M ≤ 1000000) : 0 ≤ d.x ∧ d.x ≤ 1099511627776 ∧ 0 ≤ d.y ∧ d.y ≤ 1099511627776 ∧ 0 < d.len ∧ d.len ≤ 1099511627776 := by
  obtain ⟨h1, h2, h3, h4, h5, _⟩ := h
  omega
def Tr (t : List Dg) (j : Nat) (p : Dg) (dir : Int) (q : Dg) : Prop := (dir = 0 ∧ j = 0 ∧ q = p) ∨ ((dir = 1 ∨ dir = 2) ∧ Sub q p ∧ ∀ i e, i < j → t[i]? = some e → Sep q e)
theorem Tr.sub {t : List Dg} {j : Nat} {p q : Dg} {dir : Int} (h : Tr t j p dir q) (hp : 0 < p.len) : Sub q p := by
  rcases h with ⟨_, _, rfl⟩ | ⟨_, h, _⟩
  · exact Sub.refl hp
  · exact h
theorem Tr.next {t : List Dg} {j : Nat} {p q q' e : Dg} {dir dir' : Int} (h : Tr t j p dir q) (hp : 0 < p.len) (he : t[j]? = some e) (h1 : dir' = 1 ∨ dir' = 2) (h2 : Sub q' q) (h3 : Sep q' e) : Tr t (j + 1) p dir' q' :=
  Or.inr ⟨h1, h2.trans (h.sub hp), fun i e' hi he' => by
    by_cases c : i = j
    · subst c
      rw [he] at he'
      obtain rfl := Option.some.inj he'
      exact h3
    · rcases h with ⟨_, h0, _⟩ | ⟨_, _, h⟩
      · omega
      · exact Sub.sep h2 (h i e' (by omega) he')⟩
theorem Tr.all {t : List Dg} {p q : Dg} {dir : Int} (h : Tr t t.length p dir q) (hp : 0 < p.len) : Sub q p ∧ ((dir = 0 ∧ t = []) ∨ ((dir = 1 ∨ dir = 2) ∧ ∀ e ∈ t, Sep q e)) := by
  refine ⟨h.sub hp, ?_⟩
  rcases h with ⟨h0, h1, _⟩ | ⟨h0, _, h⟩
  · exact Or.inl ⟨h0, List.eq_nil_of_length_eq_zero h1⟩
  · exact Or.inr ⟨h0, fun e he => by
      obtain ⟨i, hi, rfl⟩ := List.mem_iff_getElem.1 he
      exact h i _ hi (List.getElem?_eq_getElem hi)⟩
end Go.Myers
namespace Go.Uni
set_option linter.unusedVariables false
set_option linter.unusedSimpArgs false
abbrev Bs := List UInt8
def splitL : Bs → List Bs
  | [] => []
  | c :: t => if c = 10 then [c] :: splitL t else match splitL t with
    | [] => [[c]]
    | l :: ls => (c :: l) :: ls
def NoNl (s : Bs) : Prop := ∀ c ∈ s, c ≠ 10
def EndNl (s : Bs) : Prop := s.getLast? = some 10
def Whole (s : Bs) : Prop := s = [] ∨ EndNl s
instance (s : Bs) : Decidable (EndNl s) := by unfold EndNl; infer_instance
instance (s : Bs) : Decidable (Whole s) := by unfold Whole; infer_instance
theorem splitL_nl (t : Bs) : splitL (10 :: t) = [10] :: splitL t := by simp [splitL]
theorem splitL_line : ∀ (l t : Bs), NoNl l → splitL (l ++ 10 :: t) = (l ++ [10]) :: splitL t
  | [], t, _ => by simp [splitL]
  | c :: l, t, h => by
    have hc : c ≠ 10 := h c (by simp)
    have ih := splitL_line l t (fun d hd => h d (by simp [hd]))
    rw [List.cons_append, splitL, if_neg hc, ih]; rfl
theorem splitL_rest : ∀ (l : Bs), NoNl l → l ≠ [] → splitL l = [l]
  | [], _, h => absurd rfl h
  | [c], h, _ => by
    have hc : c ≠ 10 := h c (by simp)
    simp [splitL, hc]
  | c :: d :: l, h, _ => by
    have hc : c ≠ 10 := h c (by simp)
    have ih := splitL_rest (d :: l) (fun e he => h e (by simp [he])) (by simp)
    rw [splitL, if_neg hc, ih]
theorem splitL_ne : ∀ (s : Bs), s ≠ [] → splitL s ≠ []
  | [], h => absurd rfl h
  | c :: t, _ => by
    unfold splitL
    split
    · simp
    · split <;> simp
theorem flatten_splitL : ∀ s : Bs, (splitL s).flatten = s
  | [] => rfl
  | c :: t => by
    have ih := flatten_splitL t
    unfold splitL
    split
    · simp [ih]
    · split
      · rename_i h; rw [h] at ih; simp at ih; simp [← ih]
      · rename_i h; rw [h] at ih; simp at ih; simp [← ih]
theorem splitL_nonempty : ∀ (s : Bs) (l : Bs), l ∈ splitL s → l ≠ []
  | [], l, h => by simp [splitL] at h
  | c :: t, l, h => by
    have ih := splitL_nonempty t
    unfold splitL at h
    split at h
    · rcases List.mem_cons.1 h with rfl | h
      · simp
      · exact ih l h
    · split at h
      · simp at h; simp [h]
      · rename_i l' ls hs
        rcases List.mem_cons.1 h with rfl | h
        · simp
        · exact ih l (by rw [hs]; simp [h])
theorem endNl_cons (c : UInt8) {s : Bs} (h : s ≠ []) : EndNl (c :: s) ↔ EndNl s := by
  unfold EndNl
  rw [List.getLast?_cons]
  cases hh : s.getLast? with
  | none => simp [List.getLast?_eq_none_iff] at hh; exact absurd hh h
  | some d => simp
theorem endNl_append {s t : Bs} (h : t ≠ []) : EndNl (s ++ t) ↔ EndNl t := by
  unfold EndNl
  rw [List.getLast?_append]
  cases hh : t.getLast? with
  | none => simp [List.getLast?_eq_none_iff] at hh; exact absurd hh h
  | some d => simp
theorem whole_nil : Whole [] := Or.inl rfl
theorem whole_cons {c : UInt8} {s : Bs} (h : Whole (c :: s)) : Whole s := by
  cases s with
  | nil => exact Or.inl rfl
  | cons d s =>
    rcases h with h | h
    · cases h
    · exact Or.inr ((endNl_cons c (by simp)).1 h)
theorem splitL_append : ∀ (a b : Bs), Whole a → splitL (a ++ b) = splitL a ++ splitL b
  | [], b, _ => rfl
  | c :: a, b, h => by
    have ih := splitL_append a b (whole_cons h)
    rw [List.cons_append, splitL, splitL]
    split
    · rw [ih]; rfl
    · rename_i hc
      rw [ih]
      cases ha : splitL a with
      | nil =>
        have : a = [] := by
          rcases Decidable.em (a = []) with e | e
          · exact e
          · exact absurd ha (splitL_ne a e)
        subst this
        rcases h with h | h
        · cases h
        · simp [EndNl] at h; exact absurd h hc
      | cons l ls => rfl
def Ended : List Bs → Prop
  | [] => True
  | [l] => l ≠ []
  | l :: m :: t => EndNl l ∧ Ended (m :: t)
def AllNl (L : List Bs) : Prop := ∀ l ∈ L, EndNl l
theorem endNl_ne {l : Bs} (h : EndNl l) : l ≠ [] := by rintro rfl; simp [EndNl] at h
theorem ended_append : ∀ {A B : List Bs}, AllNl A → Ended B → Ended (A ++ B)
  | [], B, _, h => h
  | [a], [], hA, _ => endNl_ne (hA a (by simp))
  | [a], b :: B, hA, h => ⟨hA a (by simp), h⟩
  | a :: c :: A, B, hA, h => ⟨hA a (by simp), ended_append (A := c :: A) (fun l hl => hA l (List.mem_cons_of_mem _ hl)) h⟩
theorem ended_left : ∀ {A B : List Bs}, Ended (A ++ B) → B ≠ [] → AllNl A
  | [], B, _, _ => fun l h => by simp at h
  | [a], b :: B, h, _ => fun l hl => by simp at hl; subst hl; exact h.1
  | [a], [], _, h => absurd rfl h
  | a :: c :: A, B, h, hB => fun l hl => by
    rcases List.mem_cons.1 hl with rfl | hl
    · exact h.1
    · exact ended_left (A := c :: A) h.2 hB l hl
theorem ended_splitL : ∀ s : Bs, Ended (splitL s)
  | [] => trivial
  | c :: t => by
    have ih := ended_splitL t
    unfold splitL
    split
    · rename_i hc
      subst hc
      cases h : splitL t with
      | nil => simp [Ended]
      | cons l ls => rw [h] at ih; exact ⟨rfl, ih⟩
    · cases h : splitL t with
      | nil => simp [Ended]
      | cons l ls =>
        rw [h] at ih
        have hl : l ≠ [] := splitL_nonempty t l (by rw [h]; simp)
        cases ls with
        | nil => simp [Ended]
        | cons m ms => exact ⟨(endNl_cons c hl).2 ih.1, ih.2⟩
theorem flatten_endNl : ∀ {A : List Bs}, AllNl A → Whole A.flatten
  | [], _ => Or.inl rfl
  | a :: A, h => by
    have ih := flatten_endNl (A := A) (fun l hl => h l (by simp [hl]))
    have ha := h a (by simp)
    rw [List.flatten_cons]
    rcases ih with e | e
    · rw [e]; simp; exact Or.inr ha
    · exact Or.inr ((endNl_append (endNl_ne e)).2 e)
theorem allNl_splitL {s : Bs} (h : Whole s) : AllNl (splitL s) := by
  have h1 := splitL_append s [0] h
  have h2 := ended_splitL (s ++ [0])
  rw [h1] at h2
  exact ended_left h2 (splitL_ne _ (by simp))
def cnt (s : Bs) : Nat := (s.filter (· == 10)).length
theorem cnt_append (a b : Bs) : cnt (a ++ b) = cnt a + cnt b := by simp [cnt]
theorem cnt_whole : ∀ s : Bs, (splitL s).length = cnt s + (if Whole s then 0 else 1)
  | [] => rfl
  | c :: t => by
    have ih := cnt_whole t
    by_cases hc : c = 10
    · subst hc
      rw [splitL_nl, List.length_cons, ih]
      have e : Whole (10 :: t) ↔ Whole t := by
        constructor
        · exact whole_cons
        · intro h
          rcases h with rfl | h
          · exact Or.inr rfl
          · exact Or.inr ((endNl_cons 10 (endNl_ne h)).2 h)
      simp only [cnt, List.filter_cons, beq_self_eq_true, if_true, List.length_cons, e]
      omega
    · have e : cnt (c :: t) = cnt t := by simp [cnt, List.filter_cons, hc]
      rw [e, splitL, if_neg hc]
      cases h : splitL t with
      | nil =>
        have : t = [] := by
          rcases Decidable.em (t = []) with e | e
          · exact e
          · exact absurd h (splitL_ne t e)
        subst this
        have : ¬ Whole [c] := by rintro (h | h); · cases h
                                 · simp [EndNl] at h; exact hc h
        rw [if_neg this]
        simp [cnt]
      | cons l ls =>
        have ht : t ≠ [] := by rintro rfl; simp [splitL] at h
        have e2 : Whole (c :: t) ↔ Whole t := ⟨whole_cons, fun h => by
          rcases h with h | h
          · exact absurd h ht
          · exact Or.inr ((endNl_cons c ht).2 h)⟩
        rw [h] at ih
        simp only [e2]
        simpa using ih
def LS (c : Bs) (p : Nat) : Prop := Whole (c.take p)
def LP (c : Bs) (p : Nat) : Prop := Whole (c.take p) ∨ p = c.length
def ln (c : Bs) (p : Nat) : Nat := (splitL (c.take p)).length
theorem lp_split {c : Bs} {p : Nat} (h : LP c p) : splitL c = splitL (c.take p) ++ splitL (c.drop p) := by
  rcases h with h | rfl
  · rw [← splitL_append _ _ h, List.take_append_drop]
  · simp [splitL]
theorem ln_take {c : Bs} {p : Nat} (h : LP c p) : (splitL c).take (ln c p) = splitL (c.take p) := by
  rw [lp_split h]; exact List.take_left' rfl
theorem ln_drop {c : Bs} {p : Nat} (h : LP c p) : (splitL c).drop (ln c p) = splitL (c.drop p) := by
  rw [lp_split h]; exact List.drop_left' rfl
theorem ln_le {c : Bs} {p : Nat} (h : LP c p) : ln c p ≤ (splitL c).length := by
  have := congrArg List.length (lp_split h)
  rw [List.length_append] at this
  unfold ln; omega
theorem take_split {c : Bs} {p q : Nat} (h : LS c p) (hpq : p ≤ q) : splitL (c.take q) = splitL (c.take p) ++ splitL ((c.take q).drop p) := by
  have e : c.take q = c.take p ++ (c.take q).drop p := by
    conv => lhs; rw [← List.take_append_drop p (c.take q), List.take_take, Nat.min_eq_left hpq]
  conv => lhs; rw [e]
  exact splitL_append _ _ h
theorem ln_mono {c : Bs} {p q : Nat} (h : LS c p) (hpq : p ≤ q) : ln c p ≤ ln c q := by
  have := congrArg List.length (take_split h hpq)
  rw [List.length_append] at this
  unfold ln; omega
theorem ln_between {c : Bs} {p q : Nat} (h : LS c p) (hq : LP c q) (hpq : p ≤ q) : ((splitL c).take (ln c q)).drop (ln c p) = splitL ((c.take q).drop p) := by
  rw [ln_take hq, take_split h hpq]; exact List.drop_left' rfl
theorem ln_zero (c : Bs) : ln c 0 = 0 := by simp [ln, splitL]
theorem ln_all (c : Bs) : ln c c.length = (splitL c).length := by simp [ln]
theorem ln_cnt {c : Bs} {p : Nat} (h : LS c p) : ln c p = cnt (c.take p) := by
  unfold ln; rw [cnt_whole, if_pos (show Whole (c.take p) from h)]; omega
end Go.Uni
namespace Go.Uni
set_option linter.unusedVariables false
set_option linter.unusedSimpArgs false
structure BE where
  s : Nat
  e : Nat
  new : Bs
structure LE where
  a : Nat
  b : Nat
  ins : List Bs
def Al (c : Bs) : List BE → Nat → Prop
  | [], p => p ≤ c.length
  | e :: t, p => p ≤ e.s ∧ e.s ≤ e.e ∧ e.e ≤ c.length ∧ LS c e.s ∧ LP c e.e ∧ (Whole e.new ∨ (e.e = c.length ∧ t = [])) ∧ Al c t e.e
def app (c : Bs) : List BE → Nat → Bs
  | [], p => c.drop p
  | e :: t, p => (c.take e.s).drop p ++ e.new ++ app c t e.e
def AlL (n : Nat) : List LE → Nat → Prop
  | [], p => p ≤ n
  | e :: t, p => p ≤ e.a ∧ e.a ≤ e.b ∧ e.b ≤ n ∧ AlL n t e.b
def appL (L : List Bs) : List LE → Nat → List Bs
  | [], p => L.drop p
  | e :: t, p => (L.take e.a).drop p ++ e.ins ++ appL L t e.b
def toLE (c : Bs) (e : BE) : LE := ⟨ln c e.s, ln c e.e, splitL e.new⟩
theorem ls_of {c : Bs} {p q : Nat} (h : LP c p) (hq : LS c q) (hpq : p ≤ q) (hl : q ≤ c.length) : LS c p := by
  rcases h with h | rfl
  · exact h
  · obtain rfl : q = c.length := by omega
    exact hq
theorem whole_between {c : Bs} {p q : Nat} (hq : LS c q) (hpq : p ≤ q) : Whole ((c.take q).drop p) := by
  unfold LS at hq
  rcases Decidable.em ((c.take q).drop p = []) with h | h
  · exact Or.inl h
  · refine Or.inr ?_
    rcases hq with hq | hq
    · rw [hq] at h; simp at h
    · rw [← List.take_append_drop p (c.take q)] at hq
      exact (endNl_append h).1 hq
theorem al_lines {c : Bs} : ∀ (es : List BE) (p : Nat), Al c es p → LP c p → AlL (splitL c).length (es.map (toLE c)) (ln c p)
  | [], p, h, hp => ln_le hp
  | e :: t, p, ⟨h1, h2, h3, h4, h5, h6, h7⟩, hp => by
    have hs := ls_of hp h4 h1 (by omega)
    exact ⟨ln_mono hs h1, ln_mono h4 h2, ln_le h5, al_lines t e.e h7 h5⟩
theorem appL_flatten {c : Bs} : ∀ (es : List BE) (p : Nat), Al c es p → LP c p → (appL (splitL c) (es.map (toLE c)) (ln c p)).flatten = app c es p
  | [], p, h, hp => by
    show ((splitL c).drop (ln c p)).flatten = c.drop p
    rw [ln_drop hp, flatten_splitL]
  | e :: t, p, ⟨h1, h2, h3, h4, h5, h6, h7⟩, hp => by
    have hs := ls_of hp h4 h1 (by omega)
    have ih := appL_flatten t e.e h7 h5
    show (((splitL c).take (ln c e.s)).drop (ln c p) ++ splitL e.new ++ appL (splitL c) (t.map (toLE c)) (ln c e.e)).flatten = _
    rw [ln_between hs (Or.inl h4) h1, List.flatten_append, List.flatten_append, flatten_splitL, flatten_splitL, ih]
    rfl
theorem appL_ended {c : Bs} : ∀ (es : List BE) (p : Nat), Al c es p → LP c p → Ended (appL (splitL c) (es.map (toLE c)) (ln c p))
  | [], p, h, hp => by
    show Ended ((splitL c).drop (ln c p))
    rw [ln_drop hp]; exact ended_splitL _
  | e :: t, p, ⟨h1, h2, h3, h4, h5, h6, h7⟩, hp => by
    have hs := ls_of hp h4 h1 (by omega)
    have ih := appL_ended t e.e h7 h5
    show Ended (((splitL c).take (ln c e.s)).drop (ln c p) ++ splitL e.new ++ appL (splitL c) (t.map (toLE c)) (ln c e.e))
    rw [ln_between hs (Or.inl h4) h1, List.append_assoc]
    refine ended_append (allNl_splitL (whole_between h4 h1)) ?_
    rcases h6 with h6 | ⟨h6, rfl⟩
    · exact ended_append (allNl_splitL h6) ih
    · rw [h6, ln_all]
      show Ended (splitL e.new ++ (splitL c).drop (splitL c).length)
      rw [List.drop_length, List.append_nil]
      exact ended_splitL _
structure It where
  k : Nat
  l : Bs
structure Hk where
  f : Nat
  t : Nat
  its : List It
def eqs (L : List Bs) (i j : Nat) : List It := ((L.take j).drop i).map (It.mk 2)
def dels (L : List Bs) (i j : Nat) : List It := ((L.take j).drop i).map (It.mk 0)
def inss (ls : List Bs) : List It := ls.map (It.mk 1)
def run (L : List Bs) : List It → Nat → List Bs → Option (Nat × List Bs)
  | [], d, o => some (d, o)
  | i :: t, d, o => if i.k = 1 then run L t d (o ++ [i.l]) else if L[d]? = some i.l then run L t (d + 1) (if i.k = 0 then o else o ++ [i.l]) else none
theorem run_eq1 (L : List Bs) (l : Bs) (t : List It) (d : Nat) (o : List Bs) : run L (⟨2, l⟩ :: t) d o = if L[d]? = some l then run L t (d + 1) (o ++ [l]) else none := by simp [run]
theorem run_del1 (L : List Bs) (l : Bs) (t : List It) (d : Nat) (o : List Bs) : run L (⟨0, l⟩ :: t) d o = if L[d]? = some l then run L t (d + 1) o else none := by simp [run]
theorem run_ins1 (L : List Bs) (l : Bs) (t : List It) (d : Nat) (o : List Bs) : run L (⟨1, l⟩ :: t) d o = run L t d (o ++ [l]) := by simp [run]
theorem run_append (L : List Bs) : ∀ (x y : List It) (d : Nat) (o : List Bs), run L (x ++ y) d o = (run L x d o).bind fun r => run L y r.1 r.2
  | [], y, d, o => rfl
  | i :: x, y, d, o => by
    rw [List.cons_append, run, run]
    split
    · exact run_append L x y _ _
    · split
      · exact run_append L x y _ _
      · rfl
theorem seg_cons {L : List Bs} {i j : Nat} (hij : i < j) (hj : j ≤ L.length) : (L.take j).drop i = L[i]'(by omega) :: (L.take j).drop (i + 1) := by
  rw [List.drop_eq_getElem_cons (by rw [List.length_take]; omega), List.getElem_take]
theorem seg_nil {L : List Bs} {i j : Nat} (hij : j ≤ i) : (L.take j).drop i = [] := by
  apply List.drop_eq_nil_of_le; rw [List.length_take]; omega
theorem run_eqs (L : List Bs) : ∀ (n i j : Nat) (o : List Bs), j - i = n → i ≤ j → j ≤ L.length → run L (eqs L i j) i o = some (j, o ++ (L.take j).drop i)
  | 0, i, j, o, hn, hij, hj => by
    obtain rfl : i = j := by omega
    unfold eqs; rw [seg_nil (Nat.le_refl _)]; simp [run]
  | n + 1, i, j, o, hn, hij, hj => by
    have ih := run_eqs L n (i + 1) j (o ++ [L[i]'(by omega)]) (by omega) (by omega) hj
    unfold eqs at ih ⊢
    rw [seg_cons (by omega) hj, List.map_cons, run_eq1, if_pos (List.getElem?_eq_getElem (by omega)), ih, List.append_assoc]
    rfl
theorem run_dels (L : List Bs) : ∀ (n i j : Nat) (o : List Bs), j - i = n → i ≤ j → j ≤ L.length → run L (dels L i j) i o = some (j, o)
  | 0, i, j, o, hn, hij, hj => by
    obtain rfl : i = j := by omega
    unfold dels; rw [seg_nil (Nat.le_refl _)]; simp [run]
  | n + 1, i, j, o, hn, hij, hj => by
    have ih := run_dels L n (i + 1) j o (by omega) (by omega) hj
    unfold dels at ih ⊢
    rw [seg_cons (by omega) hj, List.map_cons, run_del1, if_pos (List.getElem?_eq_getElem (by omega)), ih]
theorem run_inss (L : List Bs) : ∀ (ls : List Bs) (d : Nat) (o : List Bs), run L (inss ls) d o = some (d, o ++ ls)
  | [], d, o => by simp [inss, run]
  | l :: ls, d, o => by
    have ih := run_inss L ls d (o ++ [l])
    unfold inss at ih ⊢
    rw [List.map_cons, run_ins1, ih]; simp
theorem eqs_min (L : List Bs) (i j : Nat) : eqs L i j = eqs L i (min j L.length) := by
  unfold eqs
  rcases Nat.le_total j L.length with h | h
  · rw [Nat.min_eq_left h]
  · rw [Nat.min_eq_right h, List.take_of_length_le h, List.take_length]
theorem eqs_length (L : List Bs) (i j : Nat) : (eqs L i j).length = min j L.length - i := by
  unfold eqs; simp
def runH (L : List Bs) : List Hk → Nat → List Bs → Option (Nat × List Bs)
  | [], d, o => some (d, o)
  | h :: t, d, o => if d ≤ h.f - 1 ∧ h.f - 1 ≤ L.length then (run L h.its (h.f - 1) (o ++ (L.take (h.f - 1)).drop d)).bind fun r => runH L t r.1 r.2 else none
theorem runH_append (L : List Bs) : ∀ (x y : List Hk) (d : Nat) (o : List Bs), runH L (x ++ y) d o = (runH L x d o).bind fun r => runH L y r.1 r.2
  | [], y, d, o => rfl
  | h :: x, y, d, o => by
    rw [List.cons_append, runH, runH]
    split
    · cases hr : run L h.its (h.f - 1) (o ++ (L.take (h.f - 1)).drop d) with
      | none => rfl
      | some r => exact runH_append L x y _ _
    · rfl
structure St where
  H : List Hk
  h : Option Hk
  last : Nat
  tl : Nat
def hkNew (ctx : Nat) (L : List Bs) (st : St) (a : Nat) : Hk := ⟨a + 1 - (eqs L (a - ctx) a).length, st.tl + (a - st.last) + 1 - (eqs L (a - ctx) a).length, eqs L (a - ctx) a⟩
def hkAdd (h : Hk) (x : List It) : Hk := ⟨h.f, h.t, h.its ++ x⟩
def pre (ctx : Nat) (L : List Bs) (st : St) (a : Nat) : List Hk × Hk × Nat :=
  match st.h with
  | some h => if a = st.last then (st.H, h, st.tl) else if a ≤ st.last + 2 * ctx then (st.H, hkAdd h (eqs L st.last a), st.tl)
    else (st.H ++ [hkAdd h (eqs L st.last (st.last + ctx))], hkNew ctx L st a, st.tl + (a - st.last))
  | none => (st.H, hkNew ctx L st a, st.tl + (a - st.last))
def step (ctx : Nat) (L : List Bs) (st : St) (e : LE) : St :=
  ⟨(pre ctx L st e.a).1, some (hkAdd (hkAdd (pre ctx L st e.a).2.1 (dels L e.a e.b)) (inss e.ins)), e.b, (pre ctx L st e.a).2.2 + e.ins.length⟩
def fin (ctx : Nat) (L : List Bs) (st : St) : List Hk :=
  match st.h with
  | some h => st.H ++ [hkAdd h (eqs L st.last (st.last + ctx))]
  | none => st.H
def Line (l : Bs) : Prop := l ≠ [] ∧ NoNl l.dropLast
theorem line_split : ∀ (s l : Bs), l ∈ splitL s → Line l
  | [], l, h => by simp [splitL] at h
  | c :: t, l, h => by
    have ih := line_split t
    unfold splitL at h
    split at h
    · rename_i hc
      subst hc
      rcases List.mem_cons.1 h with rfl | h
      · exact ⟨by simp, fun c hc => by simp at hc⟩
      · exact ih l h
    · rename_i hc
      split at h
      · simp at h; subst h; exact ⟨by simp, fun c hc => by simp at hc⟩
      · rename_i l' ls hs
        rcases List.mem_cons.1 h with rfl | h
        · obtain ⟨h1, h2⟩ := ih l' (by rw [hs]; simp)
          refine ⟨by simp, ?_⟩
          rw [List.dropLast_cons_of_ne_nil h1]
          intro d hd
          rcases List.mem_cons.1 hd with rfl | hd
          · exact hc
          · exact h2 d hd
        · exact ih l (by rw [hs]; simp [h])
def Lines (L : List Bs) : Prop := ∀ l ∈ L, Line l
structure Good (m : Nat) (h : Hk) : Prop where
  f1 : 1 ≤ h.f
  t1 : 1 ≤ h.t
  fm : h.f ≤ m
  tm : h.t ≤ m
  eq : (∃ i ∈ h.its, i.k = 2) ∨ (h.f = 1 ∧ h.t = 1)
  ln : ∀ i ∈ h.its, Line i.l ∧ i.k ≤ 2
theorem Good.add {m : Nat} {h : Hk} (g : Good m h) {x : List It} (hx : ∀ i ∈ x, Line i.l ∧ i.k ≤ 2) : Good m (hkAdd h x) :=
  ⟨g.f1, g.t1, g.fm, g.tm, g.eq.imp (fun ⟨i, hi, hk⟩ => ⟨i, List.mem_append_left _ hi, hk⟩) id, fun i hi => by
    rcases List.mem_append.1 hi with hi | hi
    · exact g.ln i hi
    · exact hx i hi⟩
theorem Good.mono {m m' : Nat} {h : Hk} (g : Good m h) (hm : m ≤ m') : Good m' h := ⟨g.f1, g.t1, Nat.le_trans g.fm hm, Nat.le_trans g.tm hm, g.eq, g.ln⟩
theorem lines_eqs {L : List Bs} (h : Lines L) (i j : Nat) : ∀ x ∈ eqs L i j, Line x.l ∧ x.k ≤ 2 := fun x hx => by
  obtain ⟨l, hl, rfl⟩ := List.mem_map.1 hx
  exact ⟨h l (List.mem_of_mem_take (List.mem_of_mem_drop hl)), by show 2 ≤ 2; omega⟩
theorem lines_dels {L : List Bs} (h : Lines L) (i j : Nat) : ∀ x ∈ dels L i j, Line x.l ∧ x.k ≤ 2 := fun x hx => by
  obtain ⟨l, hl, rfl⟩ := List.mem_map.1 hx
  exact ⟨h l (List.mem_of_mem_take (List.mem_of_mem_drop hl)), by show 0 ≤ 2; omega⟩
theorem lines_inss {L : List Bs} (h : Lines L) : ∀ x ∈ inss L, Line x.l ∧ x.k ≤ 2 := fun x hx => by
  obtain ⟨l, hl, rfl⟩ := List.mem_map.1 hx
  exact ⟨h l hl, by show 1 ≤ 2; omega⟩
theorem good_new {ctx m : Nat} {L : List Bs} {st : St} {a : Nat} (hL : Lines L) (hc : 1 ≤ ctx) (h0 : st.last = 0 ∧ st.tl = 0 ∨ st.last + 2 * ctx < a) (hla : st.last ≤ a) (ha : a ≤ L.length) (hm : st.tl + (a - st.last) + 1 ≤ m) (hm2 : L.length + 1 ≤ m) : Good m (hkNew ctx L st a) := by
  have hlen := eqs_length L (a - ctx) a
  rw [Nat.min_eq_left ha] at hlen
  unfold hkNew
  rw [hlen]
  refine ⟨by show 1 ≤ a + 1 - _; omega, by show 1 ≤ st.tl + (a - st.last) + 1 - _; omega, by show a + 1 - _ ≤ m; omega, by show st.tl + (a - st.last) + 1 - _ ≤ m; omega, ?_, lines_eqs hL _ _⟩
  rcases Nat.eq_zero_or_pos a with rfl | hpos
  · refine Or.inr ⟨by show 0 + 1 - _ = 1; omega, ?_⟩
    show st.tl + (0 - st.last) + 1 - _ = 1
    omega
  · refine Or.inl ?_
    have : eqs L (a - ctx) a ≠ [] := by intro e; rw [e] at hlen; simp at hlen; omega
    obtain ⟨x, t, e⟩ := List.exists_cons_of_ne_nil this
    refine ⟨x, by rw [e]; simp, ?_⟩
    have hx : x ∈ eqs L (a - ctx) a := by rw [e]; simp
    obtain ⟨l, _, rfl⟩ := List.mem_map.1 hx
    rfl
structure Inv (ctx m : Nat) (L : List Bs) (st : St) (acc : List Bs) : Prop where
  last : st.last ≤ L.length
  len : L.length + 1 ≤ m
  tl : st.tl + L.length + 1 ≤ m + st.last
  good : ∀ h ∈ st.H, Good m h
  none : st.h = none → st.H = [] ∧ st.last = 0 ∧ st.tl = 0 ∧ acc = []
  some : ∀ h, st.h = some h → Good m h ∧ ∃ d o, runH L st.H 0 [] = Option.some (d, o) ∧ d ≤ h.f - 1 ∧ h.f - 1 ≤ L.length ∧ run L h.its (h.f - 1) (o ++ (L.take (h.f - 1)).drop d) = Option.some (st.last, acc)
theorem inv_start (ctx m : Nat) (L : List Bs) (hm : L.length + 1 ≤ m) : Inv ctx m L ⟨[], none, 0, 0⟩ [] :=
  ⟨Nat.zero_le _, hm, by show 0 + L.length + 1 ≤ m + 0; omega, fun h hh => by simp at hh, fun _ => ⟨rfl, rfl, rfl, rfl⟩, fun h hh => by cases hh⟩
theorem hk_add_run {L : List Bs} {h : Hk} {x : List It} {d : Nat} {o : List Bs} {r r' : Nat × List Bs} (h1 : run L h.its d o = some r) (h2 : run L x r.1 r.2 = some r') : run L (hkAdd h x).its d o = some r' := by
  show run L (h.its ++ x) d o = _
  rw [run_append, h1]; exact h2
theorem seg_join (L : List Bs) {i j : Nat} (o : List Bs) (hij : i ≤ j) : ∀ {k : Nat}, j ≤ k → (L.take j).drop i ++ (L.take k).drop j = (L.take k).drop i := by
  intro k hjk
  conv => rhs; rw [← List.take_append_drop (j - i) ((L.take k).drop i), List.drop_drop, ← List.drop_take, List.take_take]
  rw [show min j k = j by omega, show i + (j - i) = j by omega]
theorem pre_inv {ctx m : Nat} {L : List Bs} {st : St} {acc : List Bs} {a : Nat} (hL : Lines L) (hc : 1 ≤ ctx) (hi : Inv ctx m L st acc) (hla : st.last ≤ a) (ha : a ≤ L.length) :
    (∀ h ∈ (pre ctx L st a).1, Good m h) ∧ (pre ctx L st a).2.2 + L.length + 1 ≤ m + a ∧ Good m (pre ctx L st a).2.1 ∧ ∃ d o, runH L (pre ctx L st a).1 0 [] = some (d, o) ∧ d ≤ (pre ctx L st a).2.1.f - 1 ∧ (pre ctx L st a).2.1.f - 1 ≤ L.length ∧ run L (pre ctx L st a).2.1.its ((pre ctx L st a).2.1.f - 1) (o ++ (L.take ((pre ctx L st a).2.1.f - 1)).drop d) = some (a, acc ++ (L.take a).drop st.last) := by
  have htl := hi.tl
  have hlm := hi.len
  have hlen := eqs_length L (a - ctx) a
  rw [Nat.min_eq_left ha] at hlen
  have hnew : ∀ o d, d ≤ a - ctx → run L (hkNew ctx L st a).its ((hkNew ctx L st a).f - 1) (o ++ (L.take ((hkNew ctx L st a).f - 1)).drop d) = some (a, o ++ (L.take a).drop d) := fun o d hd => by
    have hf : (hkNew ctx L st a).f - 1 = a - ctx := by unfold hkNew; rw [hlen]; show a + 1 - _ - 1 = _; omega
    rw [hf]
    show run L (eqs L (a - ctx) a) (a - ctx) _ = _
    rw [run_eqs L _ _ _ _ rfl (by omega) ha, List.append_assoc, seg_join L o hd (by omega)]
  have hf : (hkNew ctx L st a).f - 1 = a - ctx := by unfold hkNew; rw [hlen]; show a + 1 - _ - 1 = _; omega
  cases hh : st.h with
  | none =>
    obtain ⟨hH, hl, ht, hacc⟩ := hi.none hh
    unfold pre
    rw [hh]
    dsimp only
    refine ⟨fun h hm => by rw [hH] at hm; simp at hm, by omega, good_new hL hc (Or.inl ⟨hl, ht⟩) hla ha (by omega) (by omega), 0, [], by rw [hH]; rfl, by omega, by omega, ?_⟩
    rw [hnew [] 0 (by omega), hacc, hl]
  | some h =>
    obtain ⟨hg, d, o, hr, hd, hf1, hrun⟩ := hi.some h hh
    unfold pre
    rw [hh]
    dsimp only
    by_cases h1 : a = st.last
    · rw [if_pos h1]
      dsimp only
      refine ⟨hi.good, by omega, hg, d, o, hr, hd, hf1, ?_⟩
      rw [hrun, h1, seg_nil (Nat.le_refl _), List.append_nil]
    · rw [if_neg h1]
      by_cases h2 : a ≤ st.last + 2 * ctx
      · rw [if_pos h2]
        dsimp only
        refine ⟨hi.good, by omega, hg.add (lines_eqs hL _ _), d, o, hr, hd, hf1, ?_⟩
        exact hk_add_run hrun (run_eqs L _ _ _ _ rfl hla ha)
      · rw [if_neg h2]
        dsimp only
        have hmin : min (st.last + ctx) L.length = st.last + ctx := by omega
        refine ⟨fun k hk => ?_, by omega, good_new hL hc (Or.inr (by omega)) hla ha (by omega) (by omega), st.last + ctx, acc ++ (L.take (st.last + ctx)).drop st.last, ?_, by omega, by omega, ?_⟩
        · rcases List.mem_append.1 hk with hk | hk
          · exact hi.good k hk
          · simp at hk; subst hk; exact hg.add (lines_eqs hL _ _)
        · rw [runH_append, hr]
          show runH L [_] d o = _
          unfold runH
          rw [if_pos ⟨hd, hf1⟩]
          have := hk_add_run (x := eqs L st.last (st.last + ctx)) hrun (run_eqs L _ _ _ _ rfl (by omega) (by omega))
          show (run L (hkAdd h _).its (h.f - 1) (o ++ (L.take (h.f - 1)).drop d)).bind _ = _
          rw [this]; rfl
        · rw [hnew _ _ (by omega), List.append_assoc, seg_join L [] (by omega) (by omega)]
theorem step_inv {ctx m : Nat} {L : List Bs} {st : St} {acc : List Bs} {e : LE} (hL : Lines L) (hins : Lines e.ins) (hc : 1 ≤ ctx) (hi : Inv ctx m L st acc) (hla : st.last ≤ e.a) (hab : e.a ≤ e.b) (hb : e.b ≤ L.length) :
    Inv ctx (m + e.ins.length) L (step ctx L st e) (acc ++ (L.take e.a).drop st.last ++ e.ins) := by
  obtain ⟨g1, g2, g3, d, o, hr, hd, hf, hrun⟩ := pre_inv hL hc hi hla (Nat.le_trans hab hb)
  have hlm := hi.len
  refine ⟨hb, by omega, ?_, fun h hh => (g1 h hh).mono (Nat.le_add_right _ _), (fun h => by cases h), fun h hh => ?_⟩
  · show (pre ctx L st e.a).2.2 + e.ins.length + L.length + 1 ≤ m + e.ins.length + e.b
    omega
  · obtain rfl := Option.some.inj hh
    refine ⟨((g3.add (lines_dels hL _ _)).add (lines_inss hins)).mono (Nat.le_add_right _ _), d, o, hr, hd, hf, ?_⟩
    exact hk_add_run (hk_add_run hrun (run_dels L _ _ _ _ rfl hab hb)) (run_inss L _ _ _)
theorem fin_inv {ctx m : Nat} {L : List Bs} {st : St} {acc : List Bs} (hL : Lines L) (hi : Inv ctx m L st acc) (hs : st.h ≠ none) :
    fin ctx L st ≠ [] ∧ (∀ h ∈ fin ctx L st, Good m h) ∧ ∃ d o, runH L (fin ctx L st) 0 [] = some (d, o) ∧ d ≤ L.length ∧ o ++ L.drop d = acc ++ L.drop st.last := by
  cases hh : st.h with
  | none => exact absurd hh hs
  | some h =>
    obtain ⟨hg, d, o, hr, hd, hf1, hrun⟩ := hi.some h hh
    have hl := hi.last
    unfold fin
    rw [hh]
    dsimp only
    refine ⟨by simp, fun k hk => ?_, min (st.last + ctx) L.length, acc ++ (L.take (min (st.last + ctx) L.length)).drop st.last, ?_, by omega, ?_⟩
    · rcases List.mem_append.1 hk with hk | hk
      · exact hi.good k hk
      · simp at hk; subst hk; exact hg.add (lines_eqs hL _ _)
    · rw [runH_append, hr]
      show runH L [_] d o = _
      unfold runH
      rw [if_pos ⟨hd, hf1⟩]
      have := hk_add_run (x := eqs L st.last (st.last + ctx)) hrun (by rw [eqs_min]; exact run_eqs L _ _ _ _ rfl (by omega) (by omega))
      show (run L (hkAdd h _).its (h.f - 1) (o ++ (L.take (h.f - 1)).drop d)).bind _ = _
      rw [this]; rfl
    · have := seg_join L [] (i := st.last) (j := min (st.last + ctx) L.length) (by omega) (k := L.length) (by omega)
      rw [List.take_length] at this
      rw [List.append_assoc, this]
def steps (ctx : Nat) (L : List Bs) (les : List LE) (st : St) : St := les.foldl (step ctx L) st
def insN (les : List LE) : Nat := (les.map fun e => e.ins.length).sum
theorem steps_inv {ctx : Nat} {L : List Bs} (hL : Lines L) (hc : 1 ≤ ctx) : ∀ (les : List LE) (st : St) (acc : List Bs) (m : Nat), Inv ctx m L st acc → (∀ e ∈ les, Lines e.ins) → AlL L.length les st.last →
    ∃ acc', Inv ctx (m + insN les) L (steps ctx L les st) acc' ∧ acc' ++ L.drop (steps ctx L les st).last = acc ++ appL L les st.last
  | [], st, acc, m, hi, _, _ => ⟨acc, by show Inv ctx (m + 0) L st acc; exact hi, rfl⟩
  | e :: t, st, acc, m, hi, hins, ⟨h1, h2, h3, h4⟩ => by
    have hs := step_inv hL (hins e (by simp)) hc hi h1 h2 h3
    obtain ⟨acc', k1, k2⟩ := steps_inv hL hc t (step ctx L st e) _ _ hs (fun x hx => hins x (by simp [hx])) h4
    refine ⟨acc', ?_, ?_⟩
    · have e2 : m + insN (e :: t) = m + e.ins.length + insN t := by simp [insN]; omega
      rw [e2]; exact k1
    · show acc' ++ L.drop (steps ctx L t (step ctx L st e)).last = _
      rw [k2]
      show _ = acc ++ ((L.take e.a).drop st.last ++ e.ins ++ appL L t e.b)
      simp only [List.append_assoc]
      rfl
theorem steps_some (ctx : Nat) (L : List Bs) : ∀ (les : List LE) (st : St), les ≠ [] → (steps ctx L les st).h ≠ none
  | [], st, h => absurd rfl h
  | [e], st, _ => by simp [steps, step]
  | e :: f :: t, st, _ => steps_some ctx L (f :: t) (step ctx L st e) (by simp)
theorem hunks_tell {ctx : Nat} (hc : 1 ≤ ctx) (c : Bs) (es : List BE) (he : es ≠ []) (ha : Al c es 0) :
    ∃ H, H = fin ctx (splitL c) (steps ctx (splitL c) (es.map (toLE c)) ⟨[], none, 0, 0⟩) ∧ H ≠ [] ∧ (∀ h ∈ H, Good ((splitL c).length + 1 + insN (es.map (toLE c))) h) ∧
    ∃ d o, runH (splitL c) H 0 [] = some (d, o) ∧ d ≤ (splitL c).length ∧ Ended (o ++ (splitL c).drop d) ∧ (o ++ (splitL c).drop d).flatten = app c es 0 := by
  have hp : LP c 0 := Or.inl (Or.inl (by simp))
  have hL : Lines (splitL c) := fun l hl => line_split c l hl
  have hal := al_lines es 0 ha hp
  rw [ln_zero] at hal
  obtain ⟨acc, k1, k2⟩ := steps_inv hL hc (es.map (toLE c)) ⟨[], none, 0, 0⟩ [] _ (inv_start ctx ((splitL c).length + 1) (splitL c) (Nat.le_refl _)) (fun e he => by
    obtain ⟨x, _, rfl⟩ := List.mem_map.1 he
    exact fun l hl => line_split _ l hl) hal
  obtain ⟨f1, f2, d, o, f3, f4, f5⟩ := fin_inv hL k1 (steps_some _ _ _ _ (by simpa using he))
  refine ⟨_, rfl, f1, f2, d, o, f3, f4, ?_, ?_⟩
  · rw [f5, k2]
    have := appL_ended es 0 ha hp
    rw [ln_zero] at this
    exact this
  · rw [f5, k2]
    have := appL_flatten es 0 ha hp
    rw [ln_zero] at this
    exact this
end Go.Uni
namespace Go.Uni
set_option linter.unusedVariables false
set_option linter.unusedSimpArgs false
def btw (c : Bs) (p q : Nat) : Bs := (c.take q).drop p
theorem btw_length {c : Bs} {p q : Nat} (hq : q ≤ c.length) : (btw c p q).length = q - p := by unfold btw; simp; omega
theorem btw_join {c : Bs} {p q r : Nat} (h1 : p ≤ q) (h2 : q ≤ r) : btw c p q ++ btw c q r = btw c p r := by
  unfold btw
  conv => rhs; rw [← List.take_append_drop (q - p) ((c.take r).drop p), List.drop_drop, ← List.drop_take, List.take_take]
  rw [show min q r = q by omega, show p + (q - p) = q by omega]
theorem btw_rest {c : Bs} {p q : Nat} (h1 : p ≤ q) : btw c p q ++ c.drop q = c.drop p := by
  unfold btw
  conv => rhs; rw [← List.take_append_drop (q - p) (c.drop p), List.drop_drop, ← List.drop_take]
  rw [show p + (q - p) = q by omega]
theorem btw_nil {c : Bs} {p : Nat} : btw c p p = [] := by unfold btw; apply List.drop_eq_nil_of_le; simp; omega
theorem btw_take {c : Bs} {p q : Nat} (h : p ≤ q) : c.take q = c.take p ++ btw c p q := by
  have := btw_join (c := c) (p := 0) (q := p) (r := q) (by omega) h
  unfold btw at this ⊢
  simpa using this.symm
def InO (n : Nat) : List BE → Nat → Prop
  | [], p => p ≤ n
  | e :: t, p => p ≤ e.s ∧ e.s ≤ e.e ∧ e.e ≤ n ∧ InO n t e.e
def tot (es : List BE) : Nat := (es.map fun e => e.new.length).sum
def NextEnd (c : Bs) (e q : Nat) : Prop := e ≤ q ∧ q ≤ c.length ∧ ((q = c.length ∧ NoNl (btw c e q)) ∨ (∃ l, btw c e q = l ++ [10] ∧ NoNl l))
def Need (c : Bs) (e : Nat) (new : Bs) : Prop := ¬ LS c e ∨ ¬ Whole new
def Expand (c : Bs) (x y : BE) : Prop :=
  y.s ≤ x.s ∧ LS c y.s ∧ NoNl (btw c y.s x.s) ∧ (Need c x.e (btw c y.s x.s ++ x.new) → NextEnd c x.e y.e) ∧ (¬ Need c x.e (btw c y.s x.s ++ x.new) → y.e = x.e) ∧ y.new = btw c y.s x.s ++ x.new ++ btw c x.e y.e
inductive ExpandAll (c : Bs) : BE → List BE → List BE → Prop
  | last (x y : BE) : Expand c x y → ExpandAll c x [] [y]
  | join (x e : BE) (t ys : List BE) : NoNl (btw c x.e e.s) → ExpandAll c ⟨x.s, e.e, x.new ++ (btw c x.e e.s ++ e.new)⟩ t ys → ExpandAll c x (e :: t) ys
  | flush (x e y : BE) (t ys : List BE) : ¬ NoNl (btw c x.e e.s) → Expand c x y → ExpandAll c e t ys → ExpandAll c x (e :: t) (y :: ys)
theorem noNl_append {a b : Bs} : NoNl (a ++ b) ↔ NoNl a ∧ NoNl b := by
  unfold NoNl; constructor
  · intro h; exact ⟨fun c hc => h c (by simp [hc]), fun c hc => h c (by simp [hc])⟩
  · rintro ⟨h1, h2⟩ c hc
    rcases List.mem_append.1 hc with h | h
    · exact h1 c h
    · exact h2 c h
theorem expand_le {c : Bs} {x y : BE} (hx : x.s ≤ x.e) (hl : x.e ≤ c.length) (h : Expand c x y) : x.e ≤ y.e ∧ y.e ≤ c.length ∧ LP c y.e := by
  obtain ⟨h1, h2, h3, h4, h5, h6⟩ := h
  rcases Classical.em (Need c x.e (btw c y.s x.s ++ x.new)) with hn | hn
  · obtain ⟨n1, n2, n3⟩ := h4 hn
    refine ⟨n1, n2, ?_⟩
    rcases n3 with ⟨n3, _⟩ | ⟨l, n3, _⟩
    · exact Or.inr n3
    · refine Or.inl (Or.inr ?_)
      rw [btw_take n1, endNl_append (by rw [n3]; simp), n3]
      simp [EndNl]
  · have := h5 hn
    refine ⟨by omega, by omega, Or.inl ?_⟩
    rw [this]
    unfold Need at hn
    exact Classical.byContradiction fun hh => hn (Or.inl hh)
theorem expand_whole {c : Bs} {x y : BE} (hx : x.s ≤ x.e) (hl : x.e ≤ c.length) (h : Expand c x y) : Whole y.new ∨ (y.e = c.length ∧ NoNl (btw c x.e c.length)) := by
  obtain ⟨h1, h2, h3, h4, h5, h6⟩ := h
  rcases Classical.em (Need c x.e (btw c y.s x.s ++ x.new)) with hn | hn
  · obtain ⟨n1, n2, n3⟩ := h4 hn
    rcases n3 with ⟨n3, n4⟩ | ⟨l, n3, _⟩
    · right; rw [n3] at n4; exact ⟨n3, n4⟩
    · left; right
      rw [h6, n3, endNl_append (by simp)]
      simp [EndNl]
  · left
    have := h5 hn
    rw [h6, this, btw_nil, List.append_nil]
    unfold Need at hn
    exact Classical.byContradiction fun hh => hn (Or.inr hh)
theorem flush_le {c : Bs} {x e y : BE} {p : Nat} (hx : x.s ≤ x.e) (hxe : x.e ≤ e.s) (hl : e.s ≤ c.length) (h : Expand c x y) (hn : ¬ NoNl (btw c x.e e.s)) (hp : p ≤ e.s) (hpl : LS c p) (hpn : NoNl (btw c p e.s)) : y.e ≤ p ∧ x.e ≤ p := by
  have hxp : x.e ≤ p := by
    rcases Nat.lt_or_ge p x.e with h | h
    · exfalso
      rw [← btw_join (c := c) (Nat.le_of_lt h) hxe] at hpn
      exact hn (noNl_append.1 hpn).2
    · exact h
  refine ⟨?_, hxp⟩
  obtain ⟨h1, h2, h3, h4, h5, h6⟩ := h
  rcases Classical.em (Need c x.e (btw c y.s x.s ++ x.new)) with hne | hne
  · obtain ⟨n1, n2, n3⟩ := h4 hne
    rcases n3 with ⟨n3, n4⟩ | ⟨l, n3, n4⟩
    · exfalso
      rw [n3, ← btw_join (c := c) hxe hl] at n4
      exact hn (noNl_append.1 n4).1
    · rcases Nat.lt_or_ge p y.e with hlt | hge
      · exfalso
        -- the first end of a line behind x is that before y.e; p stands before it
        have hj := btw_join (c := c) (p := x.e) (q := p) (r := y.e) hxp (by omega)
        have hlen : (btw c p y.e).length = y.e - p := btw_length n2
        have hne2 : btw c p y.e ≠ [] := by intro e0; rw [e0] at hlen; simp at hlen; omega
        obtain ⟨m, z, hm⟩ : ∃ m z, btw c p y.e = m ++ [z] := ⟨_, _, (List.dropLast_concat_getLast hne2).symm⟩
        rw [hm, n3, ← List.append_assoc] at hj
        have hl2 := (List.append_inj' hj rfl).1
        have hno : NoNl (btw c x.e p) := by rw [← hl2] at n4; exact (noNl_append.1 n4).1
        have := (noNl_append (a := btw c x.e p) (b := btw c p e.s)).2 ⟨hno, hpn⟩
        rw [btw_join hxp hp] at this
        exact hn this
      · exact hge
  · rw [h5 hne]; exact hxp
theorem expand_app {c : Bs} {x y : BE} {p : Nat} (r : Bs) (hp : p ≤ y.s) (hx : x.s ≤ x.e) (hl : x.e ≤ c.length) (h : Expand c x y) :
    btw c p y.s ++ y.new ++ r = btw c p x.s ++ x.new ++ (btw c x.e y.e ++ r) := by
  obtain ⟨h1, h2, h3, h4, h5, h6⟩ := h
  rw [h6, ← btw_join (c := c) hp h1]
  simp only [List.append_assoc]
theorem app_btw (c : Bs) (e : BE) (t : List BE) (p : Nat) : app c (e :: t) p = btw c p e.s ++ e.new ++ app c t e.e := rfl
theorem app_early {c : Bs} : ∀ (t : List BE) (p q : Nat), p ≤ q → InO c.length t q → btw c p q ++ app c t q = app c t p
  | [], p, q, h, _ => btw_rest h
  | e :: t, p, q, h, hi => by
    rw [app_btw, app_btw, ← btw_join (c := c) h hi.1]
    simp only [List.append_assoc]
theorem first_at {c : Bs} {x : BE} {t ys : List BE} (h : ExpandAll c x t ys) : ∃ y r, ys = y :: r ∧ y.s ≤ x.s ∧ LS c y.s ∧ NoNl (btw c y.s x.s) := by
  induction h with
  | last x y h => exact ⟨y, [], rfl, h.1, h.2.1, h.2.2.1⟩
  | join x e t ys _ _ ih => exact ih
  | flush x e y t ys _ h _ _ => exact ⟨y, ys, rfl, h.1, h.2.1, h.2.2.1⟩
theorem expandAll_ok {c : Bs} {x : BE} {t ys : List BE} (h : ExpandAll c x t ys) : ∀ (p : Nat), x.s ≤ x.e → InO c.length t x.e → (∀ q, q ≤ x.s → LS c q → NoNl (btw c q x.s) → p ≤ q) →
    Al c ys p ∧ app c ys p = app c (x :: t) p ∧ tot ys + p + (x.e - x.s) ≤ x.new.length + tot t + c.length := by
  induction h with
  | last x y h =>
    intro p hx hi hq
    have hl : x.e ≤ c.length := hi
    have hp := hq y.s h.1 h.2.1 h.2.2.1
    obtain ⟨e1, e2, e3⟩ := expand_le hx hl h
    have ew := expand_whole hx hl h
    refine ⟨⟨hp, by have := h.1; omega, e2, h.2.1, e3, ew.imp id (fun w => ⟨w.1, rfl⟩), e2⟩, ?_, ?_⟩
    · rw [app_btw, expand_app _ hp hx hl h, app_btw]
      show _ ++ (btw c x.e y.e ++ c.drop y.e) = _
      rw [btw_rest e1]; rfl
    · obtain ⟨h1, h2, h3, h4, h5, h6⟩ := h
      have hxl : x.s ≤ c.length := by omega
      simp only [tot, List.map_cons, List.map_nil, List.sum_cons, List.sum_nil, h6, List.length_append, btw_length hxl, btw_length e2]
      omega
  | join x e t ys hn _ ih =>
    intro p hx hi hq
    obtain ⟨i1, i2, i3, i4⟩ := hi
    obtain ⟨k1, k2, k3⟩ := ih p (by show x.s ≤ e.e; omega) i4 hq
    refine ⟨k1, ?_, ?_⟩
    · rw [k2, app_btw, app_btw, app_btw]
      simp only [List.append_assoc]
    · have hes : e.s ≤ c.length := by omega
      simp only [tot, List.map_cons, List.sum_cons, List.length_append, btw_length hes] at k3 ⊢
      omega
  | flush x e y t ys hn h hrest ih =>
    intro p hx hi hq
    obtain ⟨i1, i2, i3, i4⟩ := hi
    have hl : x.e ≤ c.length := by omega
    have hp := hq y.s h.1 h.2.1 h.2.2.1
    obtain ⟨e1, e2, e3⟩ := expand_le hx hl h
    have ew := expand_whole hx hl h
    have hq2 : ∀ q, q ≤ e.s → LS c q → NoNl (btw c q e.s) → y.e ≤ q := fun q h1 h2 h3 => (flush_le hx i1 (by omega) h hn h1 h2 h3).1
    obtain ⟨k1, k2, k3⟩ := ih y.e i2 i4 hq2
    have hye : y.e ≤ e.s := by
      obtain ⟨z, r, _, z1, z2, z3⟩ := first_at hrest
      have := hq2 z.s z1 z2 z3
      omega
    refine ⟨⟨hp, by have := h.1; omega, e2, h.2.1, e3, ?_, k1⟩, ?_, ?_⟩
    · rcases ew with ew | ⟨ew, ew2⟩
      · exact Or.inl ew
      · exfalso
        rw [← btw_join (c := c) i1 (by omega)] at ew2
        exact hn (noNl_append.1 ew2).1
    · rw [app_btw, expand_app _ hp hx hl h, k2, app_early (e :: t) x.e y.e e1 ⟨hye, i2, i3, i4⟩]
      rfl
    · obtain ⟨h1, h2, h3, h4, h5, h6⟩ := h
      have hxl : x.s ≤ c.length := by omega
      simp only [tot, List.map_cons, List.sum_cons, h6, List.length_append, btw_length hxl, btw_length e2] at k3 ⊢
      omega
def Fast (c : Bs) (e : BE) : Prop := e.s < c.length ∧ LS c e.s ∧ LS c e.e ∧ Whole e.new
theorem fast_al {c : Bs} : ∀ (es : List BE) (p : Nat), InO c.length es p → (∀ e ∈ es, Fast c e) → Al c es p
  | [], p, h, _ => h
  | e :: t, p, ⟨h1, h2, h3, h4⟩, hf => ⟨h1, h2, h3, (hf e (by simp)).2.1, Or.inl (hf e (by simp)).2.2.1, Or.inl (hf e (by simp)).2.2.2, fast_al t e.e h4 (fun x hx => hf x (by simp [hx]))⟩
theorem splitL_length_le : ∀ s : Bs, (splitL s).length ≤ s.length
  | [] => Nat.le_refl _
  | c :: t => by
    have ih := splitL_length_le t
    unfold splitL
    split
    · simp; omega
    · split
      · simp
      · rename_i h; rw [h] at ih; simp at ih ⊢; omega
theorem insN_le (c : Bs) : ∀ es : List BE, insN (es.map (toLE c)) ≤ tot es
  | [] => Nat.le_refl _
  | e :: t => by
    have ih := insN_le c t
    have := splitL_length_le e.new
    simp only [insN, tot, List.map_cons, List.sum_cons, toLE] at ih ⊢
    omega
def LineEd (c : Bs) (es ys : List BE) : Prop := (ys = es ∧ ∀ e ∈ es, Fast c e) ∨ ∃ x t, es = x :: t ∧ ExpandAll c x t ys
theorem lineEd_ok {c : Bs} {es ys : List BE} (h : LineEd c es ys) (hi : InO c.length es 0) : Al c ys 0 ∧ app c ys 0 = app c es 0 ∧ tot ys ≤ tot es + c.length ∧ (es ≠ [] → ys ≠ []) := by
  rcases h with ⟨rfl, hf⟩ | ⟨x, t, rfl, h⟩
  · exact ⟨fast_al _ _ hi hf, rfl, by omega, id⟩
  · obtain ⟨i1, i2, i3, i4⟩ := hi
    obtain ⟨k1, k2, k3⟩ := expandAll_ok h 0 i2 i4 (fun _ _ _ _ => Nat.zero_le _)
    refine ⟨k1, k2, ?_, fun _ => ?_⟩
    · simp only [tot, List.map_cons, List.sum_cons] at k3 ⊢; omega
    · obtain ⟨y, r, rfl, _⟩ := first_at h; simp
end Go.Uni
namespace Go.Uni
set_option linter.unusedVariables false
set_option linter.unusedSimpArgs false
open Go.Lib (decDigits nDigits)
def noEnd : Bs := [92, 32, 78, 111, 32, 110, 101, 119, 108, 105, 110, 101, 32, 97, 116, 32, 101, 110, 100, 32, 111, 102, 32, 102, 105, 108, 101, 10]
def sign (k : Nat) : UInt8 := if k = 0 then 45 else if k = 1 then 43 else 32
def rIt (i : It) : Bs := sign i.k :: i.l ++ (if EndNl i.l then [] else 10 :: noEnd)
def rIts (its : List It) : Bs := (its.map rIt).flatten
def fromC (its : List It) : Nat := (its.filter fun i => decide (i.k ≠ 1)).length
def toC (its : List It) : Nat := (its.filter fun i => decide (i.k ≠ 0)).length
def rSpan (f n : Nat) : Bs := if 1 < n then decDigits f ++ 44 :: decDigits n else if f = 1 ∧ n = 0 then [48, 44, 48] else decDigits f
def rHead (h : Hk) : Bs := [64, 64, 32, 45] ++ rSpan h.f (fromC h.its) ++ [32, 43] ++ rSpan h.t (toC h.its) ++ [32, 64, 64, 10]
def rHk (h : Hk) : Bs := rHead h ++ rIts h.its
def rHks (H : List Hk) : Bs := (H.map rHk).flatten
def rNames (a b : Bs) : Bs := [45, 45, 45, 32] ++ a ++ [10, 43, 43, 43, 32] ++ b ++ [10]
def val (l : Bs) : Nat := l.foldl (fun v c => 10 * v + (c.toNat - 48)) 0
def Digs (l : Bs) : Prop := ∀ c ∈ l, 48 ≤ c.toNat ∧ c.toNat ≤ 57
theorem val_snoc (l : Bs) (c : UInt8) : val (l ++ [c]) = 10 * val l + (c.toNat - 48) := by simp [val]
theorem dig_toNat {d : Nat} (h : d < 10) : (UInt8.ofNat (48 + d)).toNat = 48 + d := by
  rw [UInt8.toNat_ofNat']; omega
theorem decDigits_small {n : Nat} (h : n < 10) : decDigits n = [UInt8.ofNat (48 + n)] := by rw [decDigits, dif_pos h]
theorem decDigits_big {n : Nat} (h : ¬ n < 10) : decDigits n = decDigits (n / 10) ++ [UInt8.ofNat (48 + n % 10)] := by rw [decDigits, dif_neg h]
theorem dec_digs (n : Nat) : Digs (decDigits n) := by
  induction n using Nat.strongRecOn with
  | _ n ih =>
    intro c hc
    by_cases h : n < 10
    · rw [decDigits_small h] at hc
      have hc := List.mem_singleton.1 hc
      rw [hc, dig_toNat h]; omega
    · rw [decDigits_big h] at hc
      rcases List.mem_append.1 hc with hc | hc
      · exact ih _ (by omega) c hc
      · have hc := List.mem_singleton.1 hc
        rw [hc, dig_toNat (Nat.mod_lt _ (by decide))]; omega
theorem val_dec (n : Nat) : val (decDigits n) = n := by
  induction n using Nat.strongRecOn with
  | _ n ih =>
    by_cases h : n < 10
    · rw [decDigits_small h]; simp [val, dig_toNat h]
      have : (48 + n) % 256 = 48 + n := by omega
      omega
    · rw [decDigits_big h, val_snoc, ih _ (by omega), dig_toNat (Nat.mod_lt _ (by decide))]; omega
theorem dec_ne (n : Nat) : decDigits n ≠ [] := by
  by_cases h : n < 10
  · rw [decDigits_small h]; simp
  · rw [decDigits_big h]; simp
theorem dec_prefix : ∀ (n : Nat) (p q : Bs), decDigits n = p ++ q → p ≠ [] → q ≠ [] → 0 < val p := by
  intro n
  induction n using Nat.strongRecOn with
  | _ n ih =>
    intro p q he hp hq
    by_cases h : n < 10
    · rw [decDigits_small h] at he
      have := congrArg List.length he
      have h1 := List.length_pos_iff.2 hp
      have h2 := List.length_pos_iff.2 hq
      simp at this; omega
    · rw [decDigits_big h] at he
      obtain ⟨q', z, rfl⟩ : ∃ q' z, q = q' ++ [z] := ⟨_, _, (List.dropLast_concat_getLast hq).symm⟩
      rw [← List.append_assoc] at he
      have h2 := (List.append_inj' he rfl).1
      rcases Decidable.em (q' = []) with rfl | hq'
      · rw [List.append_nil] at h2
        rw [← h2, val_dec]; omega
      · exact ih _ (by omega) p q' h2 hp hq'
theorem dec_length {n k : Nat} (hk : 1 ≤ k) (h : n < 10 ^ k) : (decDigits n).length ≤ k := by
  induction k generalizing n with
  | zero => omega
  | succ k ih =>
    by_cases hn : n < 10
    · rw [decDigits_small hn]; simp
    · rw [decDigits_big hn, List.length_append]
      cases k with
      | zero => simp at h; omega
      | succ k =>
        have := ih (n := n / 10) (by omega) (by rw [Nat.pow_succ] at h; omega)
        simp; omega
theorem fromC_cons (i : It) (t : List It) : fromC (i :: t) = (if i.k = 1 then 0 else 1) + fromC t := by
  unfold fromC; by_cases h : i.k = 1 <;> simp [h]; omega
theorem toC_cons (i : It) (t : List It) : toC (i :: t) = (if i.k = 0 then 0 else 1) + toC t := by
  unfold toC; by_cases h : i.k = 0 <;> simp [h]; omega
theorem fromC_append (a b : List It) : fromC (a ++ b) = fromC a + fromC b := by simp [fromC]
theorem toC_append (a b : List It) : toC (a ++ b) = toC a + toC b := by simp [toC]
theorem good_from {m : Nat} {h : Hk} (g : Good m h) : fromC h.its = 0 → h.f = 1 := by
  intro h0
  rcases g.eq with ⟨i, hi, hk⟩ | ⟨h1, _⟩
  · exfalso
    have : i ∈ h.its.filter fun i => decide (i.k ≠ 1) := by simp [hi, hk]
    unfold fromC at h0
    rw [List.length_eq_zero_iff] at h0
    rw [h0] at this; simp at this
  · exact h1
theorem good_to {m : Nat} {h : Hk} (g : Good m h) : toC h.its = 0 → h.t = 1 := by
  intro h0
  rcases g.eq with ⟨i, hi, hk⟩ | ⟨_, h1⟩
  · exfalso
    have : i ∈ h.its.filter fun i => decide (i.k ≠ 0) := by simp [hi, hk]
    unfold toC at h0
    rw [List.length_eq_zero_iff] at h0
    rw [h0] at this; simp at this
  · exact h1
def ht : List It → Nat × Nat × Bool → Nat × Nat × Bool
  | [], s => s
  | i :: t, s => ht t (if i.k = 2 then (if s.2.2 then (s.1, s.2.1 + 1, true) else (s.1 + 1, s.2.1, false)) else (s.1, 0, true))
end Go.Uni
