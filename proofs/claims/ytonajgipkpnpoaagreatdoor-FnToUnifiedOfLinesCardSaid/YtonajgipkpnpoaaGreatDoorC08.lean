/- The sort of edits: xdiff.SortEdits leaves the row as the reference's insertion gives it. The cells of a row of edits when one is put in its place: append, copy, store. -/
import Derived.Test.YtonajgipkpnpoaaGreatDoorC05
import Derived.Test.YtonajgipkpnpoaaGreatDoorC07
import Derived.Shelf.GgSortFunc.InsertionK
import Derived.Laws.CopyOwn
namespace Go.Proofs.YtonajgipkpnpoaaGreatDoor.SortU
open Go.RowKit Go.Sort Go.Sst Go.Proofs.YtonajgipkpnpoaaGreatDoor.SortM Go.Proofs.YtonajgipkpnpoaaGreatDoor.SortS
theorem lt_iff (x y : E) : lt x y = true ↔ x.a < y.a ∨ (x.a = y.a ∧ x.b < y.b) := by
  unfold lt
  simp only [Bool.or_eq_true, Bool.and_eq_true, decide_eq_true_eq, beq_iff_eq]
theorem lt_not (x y : E) : lt x y = false ↔ ¬ (x.a < y.a ∨ (x.a = y.a ∧ x.b < y.b)) := by
  rw [← lt_iff, Bool.not_eq_true]
theorem lt_swo : SWO lt := by
  refine ⟨fun x => ?_, fun x y z h1 h2 => ?_, fun x y z h1 h2 => ?_⟩
  · rw [lt_not]; omega
  · rw [lt_iff] at *; omega
  · rw [lt_not] at *; omega
def insAt (l : List E) (e : E) : Nat → Nat
  | 0 => 0
  | k + 1 => if lt e (l[k]?.getD default) then insAt l e k else k + 1
def insE (l : List E) (e : E) : List E := l.take (insAt l e l.length) ++ e :: l.drop (insAt l e l.length)
def sortE (l : List E) : List E := l.foldl insE []
theorem insAt_le (l : List E) (e : E) : ∀ k, insAt l e k ≤ k
  | 0 => Nat.le_refl _
  | k + 1 => by
    unfold insAt
    split
    · exact Nat.le_succ_of_le (insAt_le l e k)
    · exact Nat.le_refl _
theorem insAt_hi (l : List E) (e : E) : ∀ k, ∀ i, insAt l e k ≤ i → i < k → lt e (l[i]?.getD default) = true
  | 0, i, _, h => by omega
  | k + 1, i, h1, h2 => by
    unfold insAt at h1
    split at h1
    · rename_i c
      by_cases e1 : i = k
      · subst e1; exact c
      · exact insAt_hi l e k i h1 (by omega)
    · omega
theorem insAt_lo (l : List E) (e : E) : ∀ k, insAt l e k = 0 ∨ lt e (l[insAt l e k - 1]?.getD default) = false
  | 0 => Or.inl rfl
  | k + 1 => by
    unfold insAt
    split
    · exact insAt_lo l e k
    · rename_i c
      right
      rw [show k + 1 - 1 = k by omega]
      simpa using c
theorem insE_step (l : List E) (e : E) (hs : l.Pairwise (fun x y => lt y x = false)) :
    (insE l e).Pairwise (fun x y => lt y x = false) ∧ ∀ z, (insE l e).filter (eqv lt z) = (l ++ [e]).filter (eqv lt z) := by
  have hk := insAt_le l e l.length
  refine ins_step lt_swo l e (insAt l e l.length) hk hs (fun x hx => ?_) ?_
  · obtain ⟨i, hi, rfl⟩ := List.mem_iff_getElem.1 hx
    simp at hi
    rw [List.getElem_drop]
    have := insAt_hi l e l.length (insAt l e l.length + i) (by omega) (by omega)
    rwa [List.getElem?_eq_getElem (by omega), Option.getD_some] at this
  · rcases insAt_lo l e l.length with h | h
    · exact Or.inl h
    · by_cases c : insAt l e l.length = 0
      · exact Or.inl c
      · right
        rw [List.getElem?_eq_getElem (by omega), Option.getD_some] at h
        exact ⟨_, List.getElem?_eq_getElem (by omega), h⟩
theorem foldl_sorted : ∀ (l acc : List E), acc.Pairwise (fun x y => lt y x = false) →
    (l.foldl insE acc).Pairwise (fun x y => lt y x = false) ∧ ∀ z, (l.foldl insE acc).filter (eqv lt z) = (acc ++ l).filter (eqv lt z)
  | [], acc, h => ⟨h, fun z => by simp⟩
  | e :: l, acc, h => by
    have h1 := insE_step acc e h
    have h2 := foldl_sorted l (insE acc e) h1.1
    refine ⟨h2.1, fun z => ?_⟩
    rw [List.foldl_cons, h2.2 z, List.filter_append, h1.2 z, ← List.filter_append, List.append_assoc, List.singleton_append]
theorem sorted_is (d d' : Array E) (h : StabIn lt 0 d.size d d') (hs : SortedIn lt 0 d.size d') : d'.toList = sortE d.toList := by
  have hf := foldl_sorted d.toList [] List.Pairwise.nil
  refine uniq lt_swo _ _ (sortedIn_pairwise (by rw [h.size]; exact hs)) hf.1 fun z => ?_
  have e := h.fil z
  have e1 : seg d' 0 d.size = d'.toList := by rw [← h.size]; exact seg_toList d'
  rw [e1, seg_toList d] at e
  rw [e]
  exact (hf.2 z).symm
def Near (x : E) : Prop := -1099511627776 ≤ x.a ∧ x.a ≤ 1099511627776
structure St (w1 : World) (g off n : Nat) (d : Array E) (w : World) : Prop where
  size : d.size = n
  near : ∀ i : Nat, Near d[i]!
  world : ∃ m, w = putRowK enc 3 (Sort.ahead w1 m) g off d
theorem enc_len (x : E) : (enc x).length = 3 := rfl
theorem St.holds {w1 : World} {g off n : Nat} {d : Array E} {w : World} (h : St w1 g off n d w) (d0 : Array E) (h0 : HoldsK enc 3 w1 g off d0) (hn : d0.size = n) : HoldsK enc 3 w g off d := by
  obtain ⟨m, rfl⟩ := h.world
  exact holdsK_putRowK enc 3 _ g off d0 d (holdsK_ahead enc 3 _ _ _ _ _ h0) (h.size.trans hn.symm)
theorem swp_near {d : Array E} (h : ∀ i : Nat, Near d[i]!) (i j : Nat) (hi : i < d.size) (hj : j < d.size) : ∀ k : Nat, Near (swp d i j)[k]! := by
  intro k
  rw [swp_get d hi hj]
  split
  · exact h _
  · split
    · exact h _
    · exact h _
theorem srt (w1 : World) (g off c : Nat) (d0 : Array E) (h0 : HoldsK enc 3 w1 g off d0) (hsz : d0.size < 1152921504606846976) :
    Srt lt (.slice (some ⟨g, off, none⟩) d0.size c) (St w1 g off d0.size) where
  less d w i j hS hi hj := by
    have hH := hS.holds d0 h0 rfl
    have hs := hS.size
    refine (less_any g off c d0.size w i j d[i]! d[j]! (by omega) (by omega) (by omega) (hS.near i).1 (hS.near i).2 (hS.near j).1 (hS.near j).2 (hH.cell hi (show 0 < 3 by omega)).1 (hH.cell hi (show 1 < 3 by omega)).1 (hH.cell hj (show 0 < 3 by omega)).1 (hH.cell hj (show 1 < 3 by omega)).1).mono ?_
    rintro e w' ⟨rfl, q, rfl⟩
    refine ⟨rfl, hS.size, hS.near, ?_⟩
    obtain ⟨m, rfl⟩ := hS.world
    exact ⟨m + q, putRowK_drewN enc 3 w1 m q g off d⟩
  swap d w i j hS hi hj := by
    have hH := hS.holds d0 h0 rfl
    have hs := hS.size
    have ci := fun (k : Nat) (h : k < 3) => hH.cell hi h
    have cj := fun (k : Nat) (h : k < 3) => hH.cell hj h
    refine (swap_any g off c d0.size w i j d[i]! d[j]! (by omega) (by omega) (by omega) (ci 0 (by omega)).1 (ci 1 (by omega)).1 (ci 2 (by omega)).1 (cj 0 (by omega)).1 (cj 1 (by omega)).1 (cj 2 (by omega)).1
      (ci 0 (by omega)).2 (ci 1 (by omega)).2 (ci 2 (by omega)).2 (cj 0 (by omega)).2 (cj 1 (by omega)).2 (cj 2 (by omega)).2).mono ?_
    rintro e w' ⟨rfl, q, rfl⟩
    refine ⟨rfl, (swp_size d i j).trans hS.size, swp_near hS.near i j hi hj, ?_⟩
    obtain ⟨m, rfl⟩ := hS.world
    refine ⟨m + q, ?_⟩
    have e := swap_worldK enc 3 enc_len w1 m 0 g off d i j hi hj
    rw [World.drewN_zero] at e
    rw [e]
    exact putRowK_drewN enc 3 w1 m q g off _
  len d w hS := by
    refine (len_any _ d0.size c w (by omega)).mono ?_
    rintro e w' ⟨rfl, rfl⟩
    exact ⟨by rw [hS.size], hS⟩
  mN := fun _ => by kernel_rfl
  mL := fun _ => by kernel_rfl
  mS := fun _ => by kernel_rfl
set_option maxRecDepth 100000 in
theorem sortEdits_any (w1 : World) (g off c : Nat) (d : Array E) (h0 : HoldsK enc 3 w1 g off d) (hn : ∀ i : Nat, Near d[i]!) (hsz : d.size < 1152921504606846976) :
    Calls Tryz.prog 67 #[.slice (some ⟨g, off, none⟩) d.size c] w1 fun e w' => e = .returned (.tuple #[]) ∧ ∃ m d', d'.toList = sortE d.toList ∧ w' = putRowK enc 3 (Sort.ahead w1 m) g off d' := by
  have hS : St w1 g off d.size d w1 := ⟨rfl, hn, 0, (putRowK_self enc 3 w1 g off d h0).symm⟩
  have hst := Stable_any (srt w1 g off c d h0 hsz) lt_swo d w1 hS hsz
  have hfin : ∀ w', Merged lt (St w1 g off d.size) 0 d.size d w' → ∃ m d', d'.toList = sortE d.toList ∧ w' = putRowK enc 3 (Sort.ahead w1 m) g off d' := by
    rintro w' ⟨d', hs, st, so⟩
    obtain ⟨m, hm⟩ := hs.world
    exact ⟨m, d', sorted_is d d' st so, hm⟩
  have HF := Lib.hid hfin
  clear hfin hS hn h0
  go_enter Tryz.func67, Tryz.ntmps67
  go_wp2_with fail
  refine hst.mono ?_
  rintro e w' ⟨rfl, hm⟩
  go_wp2_with fail
  go_end0
  exact ⟨rfl, HF.out _ hm⟩
end Go.Proofs.YtonajgipkpnpoaaGreatDoor.SortU
namespace Go.Proofs.YtonajgipkpnpoaaGreatDoor.SortU
open Go.Proofs.YtonajgipkpnpoaaGreatDoor.SortM
def flat (xs : List E) : List Value := xs.flatMap enc
theorem flat_cons (x : E) (xs : List E) : flat (x :: xs) = enc x ++ flat xs := rfl
theorem flat_length (xs : List E) : (flat xs).length = xs.length * 3 := by
  induction xs with
  | nil => rfl
  | cons x xs ih => rw [flat_cons, List.length_append, ih, List.length_cons, enc_len]; omega
theorem flat_get (xs : List E) : ∀ (j : Nat) (p : E), xs[j]? = some p → ((flat xs).drop (j * 3)).take 3 = enc p := by
  induction xs with
  | nil => intro j p h; simp at h
  | cons x xs ih =>
    intro j p h
    cases j with
    | zero => simp at h; subst h; rw [flat_cons]; simp [enc]
    | succ j =>
      rw [List.getElem?_cons_succ] at h
      rw [flat_cons, show (j + 1) * 3 = (enc x).length + j * 3 by rw [enc_len]; omega, ← List.drop_drop, List.drop_left]
      exact ih j p h
theorem flat_one (xs : List E) : ∀ v ∈ flat xs, v.oneCell' = true := by
  intro v hv
  unfold flat at hv
  rw [List.mem_flatMap] at hv
  obtain ⟨x, _, hx⟩ := hv
  simp [enc] at hx
  rcases hx with rfl | rfl | rfl <;> rfl
end Go.Proofs.YtonajgipkpnpoaaGreatDoor.SortU
