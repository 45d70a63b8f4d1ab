/- sort.stable and sort.Stable over whatever methods Len, Less and Swap do: the row is sorted, those alike in their order. -/
import Derived.Test.YtonajgipkpnpoaaDoorSortZ
import Derived.Test.YtonajgipkpnpoaaDoorCSrt
import Derived.Shelf.GgSortFunc.InsertionK
import Derived.Laws.CopyOwn
namespace Go.Proofs.YtonajgipkpnpoaaDoor.SortS
open Go.RowKit Go.Sort Go.Sst
variable {α : Type} [Inhabited α] {lt : α → α → Bool} {rv : Value} {St : Array α → World → Prop}

/-- Behind the blocks ahead of a. -/
structure Bl (lt : α → α → Bool) (bs a n : Nat) (d dk : Array α) : Prop where
  st : StabIn lt 0 n d dk
  bl : Blocks lt bs 0 a dk

theorem Bl.ins {bs a b n q : Nat} {d dk d' : Array α} (h : Bl lt bs a n d dk) (ha : a = q * bs) (hab : a ≤ b) (hbn : b ≤ n) (st : StabIn lt a b dk d') (so : SortedIn lt a b d') : Bl lt bs b n d d' :=
  ⟨h.st.trans (st.mono (Nat.zero_le _) hab hbn), blocks_snoc q ha (blocks_stab h.bl st (Or.inl (Nat.le_refl _))) so⟩

/-- Blocks of twice the size ahead of a, blocks of the size behind it. -/
structure Bm (lt : α → α → Bool) (bs a n : Nat) (d dk : Array α) : Prop where
  st : StabIn lt 0 n d dk
  lo : Blocks lt (2 * bs) 0 a dk
  hi : Blocks lt bs a n dk

theorem Bm.start {bs n : Nat} {d dk : Array α} (h : Bl lt bs n n d dk) : Bm lt bs 0 n d dk := ⟨h.st, fun i j h1 h2 h3 => by omega, h.bl⟩

theorem Bm.left {bs a n q : Nat} {d dk : Array α} (h : Bm lt bs a n d dk) (ha : a = q * (2 * bs)) (hn : a + bs ≤ n) : SortedIn lt a (a + bs) dk :=
  blocks_sorted (q * 2) (by rw [ha, Nat.mul_assoc]) (Nat.le_refl _) (Nat.le_refl _) hn h.hi

theorem Bm.right {bs a b n q : Nat} {d dk : Array α} (h : Bm lt bs a n d dk) (ha : a = q * (2 * bs)) (hb : b ≤ a + 2 * bs) (hn : b ≤ n) : SortedIn lt (a + bs) b dk :=
  blocks_sorted (q * 2 + 1) (by rw [ha, Nat.add_mul, Nat.one_mul, Nat.mul_assoc]) (by omega) (by omega) hn h.hi

theorem Bm.only {bs a n q : Nat} {d dk : Array α} (h : Bm lt bs a n d dk) (ha : a = q * (2 * bs)) (hb : n ≤ a + bs) : SortedIn lt a n dk :=
  blocks_sorted (q * 2) (by rw [ha, Nat.mul_assoc]) hb (Nat.le_refl _) (Nat.le_refl _) h.hi

theorem Bm.step {bs a b n q : Nat} {d dk d' : Array α} (h : Bm lt bs a n d dk) (ha : a = q * (2 * bs)) (hab : a ≤ b) (hbn : b ≤ n) (st : StabIn lt a b dk d') (so : SortedIn lt a b d') : Bm lt bs b n d d' :=
  ⟨h.st.trans (st.mono (Nat.zero_le _) hab hbn), blocks_snoc q ha (blocks_stab h.lo st (Or.inl (Nat.le_refl _))) so,
    blocks_stab (fun i j h1 h2 h3 h4 => h.hi i j (by omega) h2 h3 h4) st (Or.inr (Nat.le_refl _))⟩

theorem Bm.done {bs n : Nat} {d dk : Array α} (h : Bm lt bs n n d dk) : Bl lt (2 * bs) n n d dk := ⟨h.st, h.lo⟩

theorem Bl.sorted {bs n : Nat} {d dk : Array α} (h : Bl lt bs n n d dk) (hn : n ≤ bs) : SortedIn lt 0 n dk :=
  blocks_sorted 0 (by omega) (by omega) (Nat.le_refl _) (Nat.le_refl _) h.bl

set_option maxHeartbeats 1600000 in
set_option maxRecDepth 100000 in
theorem stable_any (H : Srt lt rv St) (hO : SWO lt) (d : Array α) (w : World) (hS : St d w) (hsz : d.size < 1152921504606846976) :
    Calls Tryd.prog 64 #[.iface 99 rv, .int .i64 d.size] w fun e w' => e = .returned (.tuple #[]) ∧ Merged lt St 0 d.size d w' := by
  have hsz2 : d.size < 4611686018427387904 := by omega
  have HO := Lib.hid hO
  clear hO
  obtain ⟨n, hn⟩ : ∃ n, n = d.size := ⟨_, rfl⟩
  rw [← hn]
  have hnz : n < 1152921504606846976 := by omega
  have HN := Lib.hid hn
  clear hn hsz hsz2
  go_enter Tryd.func64, Tryd.ntmps64
  go_wp2
  go_loopw [5, 6] (fun va vb wr => ∃ (q a : Nat) (dk : Array α), va = .int .i64 a ∧ vb = .int .i64 ((a : Int) + 20) ∧ a ≤ n ∧ Hid (a = q * 20) ∧ St dk wr ∧ Hid (Bl lt 20 a n d dk)) (fun va _ _ => n - (intOf va).toNat)
  case atStart => exact ⟨0, 0, d, rfl, rfl, by omega, rfl, hS, StabIn.refl _ _ _, fun i j h1 h2 h3 => by omega⟩
  case round =>
    obtain ⟨q, a, dk, rfl, rfl, han, hq, hs, hB⟩ := hrel
    have hdk : Hid (dk.size = n) := by show _ = _; rw [hB.out.st.size, HN.out]
    by_cases hlt : a + 20 ≤ n
    · have hc := insertionSort_any H dk wr a (a + 20) hs (by omega) (by rw [hdk.out]; exact hlt) (by rw [hdk.out]; omega)
      have e1 : ((a + 20 : Nat) : Int) = (a : Int) + 20 := by omega
      rw [e1] at hc
      have E1 := Lib.hid e1
      clear e1
      go_wp2_with (go_at_call 72; refine hc.mono ?_; rintro e w' ⟨rfl, hs2⟩)
      go_roundw
      case rel =>
        have hi := insertionSort_stab HO.out dk a (a + 20) (by omega) (by rw [hdk.out]; exact hlt)
        exact ⟨q + 1, a + 20, _, by rw [E1.out], by rw [E1.out], hlt, by show _ = _; rw [hq.out]; omega, hs2, hB.out.ins hq.out (by omega) hlt hi.1 hi.2⟩
      case measure => simp [intOf]; omega
    · have hc := insertionSort_any H dk wr a n hs han (by rw [hdk.out]; omega) (by rw [hdk.out]; omega)
      have hi := insertionSort_stab HO.out dk a n han (by rw [hdk.out]; omega)
      have hB2 := Lib.hid (hB.out.ins hq.out han (Nat.le_refl _) hi.1 hi.2)
      clear hi
      go_wp2_with (go_at_call 72; refine hc.mono ?_; rintro e w' ⟨rfl, hs2⟩)
      generalize Sort.insertionSort lt dk a n = d1 at hs2 hB2
      clear hs hdk hB hq
      go_loopw [4] (fun vq wr => ∃ (bs : Nat) (dk : Array α), vq = .int .i64 bs ∧ 20 ≤ bs ∧ bs ≤ 2 * n + 20 ∧ St dk wr ∧ Hid (Bl lt bs n n d dk)) (fun vq _ => n - (intOf vq).toNat)
      case atStart => exact ⟨20, d1, rfl, by omega, by omega, hs2, hB2⟩
      case round =>
        obtain ⟨bs, dk, rfl, hb20, hbn, hs, hB⟩ := hrel
        by_cases hlt2 : bs < n
        · go_wp2
          obtain ⟨wo, rfl⟩ : ∃ wo : World, wo = wr := ⟨_, rfl⟩
          go_loopw [5, 6] (fun va vb wr => ∃ (q a : Nat) (dk : Array α), va = .int .i64 a ∧ vb = .int .i64 ((a : Int) + 2 * bs) ∧ a ≤ n ∧ Hid (a = q * (2 * bs)) ∧ St dk wr ∧ Hid (Bm lt bs a n d dk)) (fun va _ _ => n - (intOf va).toNat)
          case atStart => exact ⟨0, 0, dk, rfl, by congr 1; omega, by omega, by show _ = _; omega, hs, Bm.start hB.out⟩
          case round =>
            clear hs hB
            obtain ⟨q, a, dk, rfl, rfl, han, hq, hs, hM⟩ := hrel
            have hdk : Hid (dk.size = n) := by show _ = _; rw [hM.out.st.size, HN.out]
            by_cases hlt3 : a + 2 * bs ≤ n
            · have hc := symMerge_any H HO.out _ dk wr a (a + bs) (a + 2 * bs) (Nat.le_refl _) hs (by omega) (by omega) (by rw [hdk.out]; exact hlt3) (by rw [hdk.out]; omega) (hM.out.left hq.out (by omega)) (hM.out.right hq.out (Nat.le_refl _) hlt3)
              have e1 : ((a + 2 * bs : Nat) : Int) = (a : Int) + 2 * bs := by omega
              have e2 : ((a + bs : Nat) : Int) = (a : Int) + bs := by omega
              rw [e1, e2] at hc
              have E1 := Lib.hid e1
              clear e1 e2
              go_wp2_with (go_at_call 73; refine hc.mono ?_; rintro e w' ⟨rfl, hm⟩)
              obtain ⟨d', hs2, st', so'⟩ := hm
              have hM2 := Lib.hid (hM.out.step hq.out (by omega) hlt3 st' so')
              go_roundw
              case rel => exact ⟨q + 1, a + 2 * bs, d', by rw [E1.out], by rw [E1.out], hlt3, by show _ = _; rw [Nat.add_mul, ← hq.out]; omega, hs2, hM2⟩
              case measure => simp [intOf]; omega
            · by_cases hlt4 : a + bs < n
              · have hc := symMerge_any H HO.out _ dk wr a (a + bs) n (Nat.le_refl _) hs (by omega) hlt4 (by rw [hdk.out]; omega) (by rw [hdk.out]; omega) (hM.out.left hq.out (by omega)) (hM.out.right hq.out (by omega) (Nat.le_refl _))
                have e2 : ((a + bs : Nat) : Int) = (a : Int) + bs := by omega
                rw [e2] at hc
                clear e2
                go_wp2_with (go_at_call 73; refine hc.mono ?_; rintro e w' ⟨rfl, hm⟩)
                obtain ⟨d', hs2, st', so'⟩ := hm
                have hM2 := Lib.hid ((hM.out.step hq.out han (Nat.le_refl _) st' so').done)
                go_roundw
                case rel => exact ⟨2 * bs, d', by congr 1; omega, by omega, by omega, hs2, hM2⟩
                case measure => simp [intOf]; omega
              · have hM2 := Lib.hid ((hM.out.step hq.out han (Nat.le_refl _) (StabIn.refl _ _ _) (hM.out.only hq.out (by omega))).done)
                go_wp2
                go_roundw
                case rel => exact ⟨2 * bs, dk, by congr 1; omega, by omega, by omega, hs, hM2⟩
                case measure => simp [intOf]; omega
        · have hfin := Lib.hid (And.intro hB.out.st (hB.out.sorted (by omega)))
          go_wp2
          go_end0
          exact ⟨rfl, _, hs, hfin.out⟩

set_option maxRecDepth 100000 in
theorem Stable_any (H : Srt lt rv St) (hO : SWO lt) (d : Array α) (w : World) (hS : St d w) (hsz : d.size < 1152921504606846976) :
    Calls Tryd.prog 56 #[.iface 99 rv] w fun e w' => e = .returned (.tuple #[]) ∧ Merged lt St 0 d.size d w' := by
  have mN := H.mN
  have hl := H.len d w hS
  have hst := fun w1 h1 => stable_any H hO d w1 h1 hsz
  go_enter Tryd.func56, Tryd.ntmps56
  go_wp2_with fail
  refine hl.mono ?_
  rintro e1 w1 ⟨rfl, hs1⟩
  go_wp2_with fail
  refine (hst _ hs1).mono ?_
  rintro e2 w2 ⟨rfl, hm⟩
  go_wp2_with fail
  go_end0
  exact ⟨rfl, hm⟩
end Go.Proofs.YtonajgipkpnpoaaDoor.SortS
/- The sort of edits: xdiff.SortEdits leaves the row as the reference's insertion gives it. -/
namespace Go.Proofs.YtonajgipkpnpoaaDoor.SortU
open Go.RowKit Go.Sort Go.Sst Go.Proofs.YtonajgipkpnpoaaDoor.SortM Go.Proofs.YtonajgipkpnpoaaDoor.SortS

theorem lt_iff (x y : E) : lt x y = true ↔ x.a < y.a ∨ (x.a = y.a ∧ x.b < y.b) := by
  unfold lt
  simp only [Bool.or_eq_true, Bool.and_eq_true, decide_eq_true_eq, beq_iff_eq]

theorem lt_not (x y : E) : lt x y = false ↔ ¬ (x.a < y.a ∨ (x.a = y.a ∧ x.b < y.b)) := by
  rw [← lt_iff, Bool.not_eq_true]

theorem lt_swo : SWO lt := by
  refine ⟨fun x => ?_, fun x y z h1 h2 => ?_, fun x y z h1 h2 => ?_⟩
  · rw [lt_not]; omega
  · rw [lt_iff] at *; omega
  · rw [lt_not] at *; omega

/-! ### the reference -/
/-- Where e goes among the first k of l: behind the last one that is not greater. -/
def insAt (l : List E) (e : E) : Nat → Nat
  | 0 => 0
  | k + 1 => if lt e (l[k]?.getD default) then insAt l e k else k + 1

def insE (l : List E) (e : E) : List E := l.take (insAt l e l.length) ++ e :: l.drop (insAt l e l.length)

def sortE (l : List E) : List E := l.foldl insE []

theorem insAt_le (l : List E) (e : E) : ∀ k, insAt l e k ≤ k
  | 0 => Nat.le_refl _
  | k + 1 => by
    unfold insAt
    split
    · exact Nat.le_succ_of_le (insAt_le l e k)
    · exact Nat.le_refl _

theorem insAt_hi (l : List E) (e : E) : ∀ k, ∀ i, insAt l e k ≤ i → i < k → lt e (l[i]?.getD default) = true
  | 0, i, _, h => by omega
  | k + 1, i, h1, h2 => by
    unfold insAt at h1
    split at h1
    · rename_i c
      by_cases e1 : i = k
      · subst e1; exact c
      · exact insAt_hi l e k i h1 (by omega)
    · omega

theorem insAt_lo (l : List E) (e : E) : ∀ k, insAt l e k = 0 ∨ lt e (l[insAt l e k - 1]?.getD default) = false
  | 0 => Or.inl rfl
  | k + 1 => by
    unfold insAt
    split
    · exact insAt_lo l e k
    · rename_i c
      right
      rw [show k + 1 - 1 = k by omega]
      simpa using c

theorem insE_step (l : List E) (e : E) (hs : l.Pairwise (fun x y => lt y x = false)) :
    (insE l e).Pairwise (fun x y => lt y x = false) ∧ ∀ z, (insE l e).filter (eqv lt z) = (l ++ [e]).filter (eqv lt z) := by
  have hk := insAt_le l e l.length
  refine ins_step lt_swo l e (insAt l e l.length) hk hs (fun x hx => ?_) ?_
  · obtain ⟨i, hi, rfl⟩ := List.mem_iff_getElem.1 hx
    simp at hi
    rw [List.getElem_drop]
    have := insAt_hi l e l.length (insAt l e l.length + i) (by omega) (by omega)
    rwa [List.getElem?_eq_getElem (by omega), Option.getD_some] at this
  · rcases insAt_lo l e l.length with h | h
    · exact Or.inl h
    · by_cases c : insAt l e l.length = 0
      · exact Or.inl c
      · right
        rw [List.getElem?_eq_getElem (by omega), Option.getD_some] at h
        exact ⟨_, List.getElem?_eq_getElem (by omega), h⟩

theorem foldl_sorted : ∀ (l acc : List E), acc.Pairwise (fun x y => lt y x = false) →
    (l.foldl insE acc).Pairwise (fun x y => lt y x = false) ∧ ∀ z, (l.foldl insE acc).filter (eqv lt z) = (acc ++ l).filter (eqv lt z)
  | [], acc, h => ⟨h, fun z => by simp⟩
  | e :: l, acc, h => by
    have h1 := insE_step acc e h
    have h2 := foldl_sorted l (insE acc e) h1.1
    refine ⟨h2.1, fun z => ?_⟩
    rw [List.foldl_cons, h2.2 z, List.filter_append, h1.2 z, ← List.filter_append, List.append_assoc, List.singleton_append]

theorem sorted_is (d d' : Array E) (h : StabIn lt 0 d.size d d') (hs : SortedIn lt 0 d.size d') : d'.toList = sortE d.toList := by
  have hf := foldl_sorted d.toList [] List.Pairwise.nil
  refine uniq lt_swo _ _ (sortedIn_pairwise (by rw [h.size]; exact hs)) hf.1 fun z => ?_
  have e := h.fil z
  have e1 : seg d' 0 d.size = d'.toList := by rw [← h.size]; exact seg_toList d'
  rw [e1, seg_toList d] at e
  rw [e]
  exact (hf.2 z).symm

/-! ### memory -/
def Near (x : E) : Prop := -1099511627776 ≤ x.a ∧ x.a ≤ 1099511627776

structure St (w1 : World) (g off n : Nat) (d : Array E) (w : World) : Prop where
  size : d.size = n
  near : ∀ i : Nat, Near d[i]!
  world : ∃ m, w = putRowK enc 3 (Sort.ahead w1 m) g off d

theorem enc_len (x : E) : (enc x).length = 3 := rfl

theorem St.holds {w1 : World} {g off n : Nat} {d : Array E} {w : World} (h : St w1 g off n d w) (d0 : Array E) (h0 : HoldsK enc 3 w1 g off d0) (hn : d0.size = n) : HoldsK enc 3 w g off d := by
  obtain ⟨m, rfl⟩ := h.world
  exact holdsK_putRowK enc 3 _ g off d0 d (holdsK_ahead enc 3 _ _ _ _ _ h0) (h.size.trans hn.symm)

theorem swp_near {d : Array E} (h : ∀ i : Nat, Near d[i]!) (i j : Nat) (hi : i < d.size) (hj : j < d.size) : ∀ k : Nat, Near (swp d i j)[k]! := by
  intro k
  rw [swp_get d hi hj]
  split
  · exact h _
  · split
    · exact h _
    · exact h _

theorem srt (w1 : World) (g off c : Nat) (d0 : Array E) (h0 : HoldsK enc 3 w1 g off d0) (hsz : d0.size < 1152921504606846976) :
    Srt lt (.slice (some ⟨g, off, none⟩) d0.size c) (St w1 g off d0.size) where
  less d w i j hS hi hj := by
    have hH := hS.holds d0 h0 rfl
    have hs := hS.size
    refine (less_any g off c d0.size w i j d[i]! d[j]! (by omega) (by omega) (by omega) (hS.near i).1 (hS.near i).2 (hS.near j).1 (hS.near j).2 (hH.cell hi (show 0 < 3 by omega)).1 (hH.cell hi (show 1 < 3 by omega)).1 (hH.cell hj (show 0 < 3 by omega)).1 (hH.cell hj (show 1 < 3 by omega)).1).mono ?_
    rintro e w' ⟨rfl, q, rfl⟩
    refine ⟨rfl, hS.size, hS.near, ?_⟩
    obtain ⟨m, rfl⟩ := hS.world
    exact ⟨m + q, putRowK_drewN enc 3 w1 m q g off d⟩
  swap d w i j hS hi hj := by
    have hH := hS.holds d0 h0 rfl
    have hs := hS.size
    have ci := fun (k : Nat) (h : k < 3) => hH.cell hi h
    have cj := fun (k : Nat) (h : k < 3) => hH.cell hj h
    refine (swap_any g off c d0.size w i j d[i]! d[j]! (by omega) (by omega) (by omega) (ci 0 (by omega)).1 (ci 1 (by omega)).1 (ci 2 (by omega)).1 (cj 0 (by omega)).1 (cj 1 (by omega)).1 (cj 2 (by omega)).1
      (ci 0 (by omega)).2 (ci 1 (by omega)).2 (ci 2 (by omega)).2 (cj 0 (by omega)).2 (cj 1 (by omega)).2 (cj 2 (by omega)).2).mono ?_
    rintro e w' ⟨rfl, q, rfl⟩
    refine ⟨rfl, (swp_size d i j).trans hS.size, swp_near hS.near i j hi hj, ?_⟩
    obtain ⟨m, rfl⟩ := hS.world
    refine ⟨m + q, ?_⟩
    have e := swap_worldK enc 3 enc_len w1 m 0 g off d i j hi hj
    rw [World.drewN_zero] at e
    rw [e]
    exact putRowK_drewN enc 3 w1 m q g off _
  len d w hS := by
    refine (len_any _ d0.size c w (by omega)).mono ?_
    rintro e w' ⟨rfl, rfl⟩
    exact ⟨by rw [hS.size], hS⟩
  mN := fun _ => by kernel_rfl
  mL := fun _ => by kernel_rfl
  mS := fun _ => by kernel_rfl

set_option maxRecDepth 100000 in
/-- SortEdits over a row of n edits at places not too far out. -/
theorem sortEdits_any (w1 : World) (g off c : Nat) (d : Array E) (h0 : HoldsK enc 3 w1 g off d) (hn : ∀ i : Nat, Near d[i]!) (hsz : d.size < 1152921504606846976) :
    Calls Tryd.prog 49 #[.slice (some ⟨g, off, none⟩) d.size c] w1 fun e w' => e = .returned (.tuple #[]) ∧ ∃ m d', d'.toList = sortE d.toList ∧ w' = putRowK enc 3 (Sort.ahead w1 m) g off d' := by
  have hS : St w1 g off d.size d w1 := ⟨rfl, hn, 0, (putRowK_self enc 3 w1 g off d h0).symm⟩
  have hst := Stable_any (srt w1 g off c d h0 hsz) lt_swo d w1 hS hsz
  have hfin : ∀ w', Merged lt (St w1 g off d.size) 0 d.size d w' → ∃ m d', d'.toList = sortE d.toList ∧ w' = putRowK enc 3 (Sort.ahead w1 m) g off d' := by
    rintro w' ⟨d', hs, st, so⟩
    obtain ⟨m, hm⟩ := hs.world
    exact ⟨m, d', sorted_is d d' st so, hm⟩
  have HF := Lib.hid hfin
  clear hfin hS hn h0
  go_enter Tryd.func49, Tryd.ntmps49
  go_wp2_with fail
  refine hst.mono ?_
  rintro e w' ⟨rfl, hm⟩
  go_wp2_with fail
  go_end0
  exact ⟨rfl, HF.out _ hm⟩

theorem srt0 (A : Option Addr) (c : Nat) (w1 : World) : Srt lt (.slice A 0 c) (fun d w => d.size = 0 ∧ w1 = w) where
  less d w i j hS hi hj := by omega
  swap d w i j hS hi hj := by omega
  len d w hS := by
    refine (len_any A 0 c w (by omega)).mono ?_
    rintro e w' ⟨rfl, rfl⟩
    exact ⟨by rw [hS.1], hS⟩
  mN := fun _ => by kernel_rfl
  mL := fun _ => by kernel_rfl
  mS := fun _ => by kernel_rfl

set_option maxRecDepth 100000 in
/-- SortEdits over no edits. -/
theorem sortEdits_none (A : Option Addr) (c : Nat) (w1 : World) : Calls Tryd.prog 49 #[.slice A 0 c] w1 fun e w' => e = .returned (.tuple #[]) ∧ w1 = w' := by
  have hst := Stable_any (srt0 A c w1) lt_swo #[] w1 ⟨rfl, rfl⟩ (by simp)
  go_enter Tryd.func49, Tryd.ntmps49
  go_wp2_with fail
  refine hst.mono ?_
  rintro e w' ⟨rfl, hm⟩
  go_wp2_with fail
  go_end0
  obtain ⟨d', ⟨_, hw⟩, _, _⟩ := hm
  exact ⟨rfl, hw⟩
end Go.Proofs.YtonajgipkpnpoaaDoor.SortU
/- The cells of a row of edits when one is put in its place: append, copy, store. -/
namespace Go.Proofs.YtonajgipkpnpoaaDoor.SortU
open Go.Proofs.YtonajgipkpnpoaaDoor.SortM

def flat (xs : List E) : List Value := xs.flatMap enc

theorem flat_nil : flat [] = [] := rfl
theorem flat_cons (x : E) (xs : List E) : flat (x :: xs) = enc x ++ flat xs := rfl
theorem flat_append (xs ys : List E) : flat (xs ++ ys) = flat xs ++ flat ys := List.flatMap_append
theorem flat_length (xs : List E) : (flat xs).length = xs.length * 3 := by
  induction xs with
  | nil => rfl
  | cons x xs ih => rw [flat_cons, List.length_append, ih, List.length_cons, enc_len]; omega

theorem flat_get (xs : List E) : ∀ (j : Nat) (p : E), xs[j]? = some p → ((flat xs).drop (j * 3)).take 3 = enc p := by
  induction xs with
  | nil => intro j p h; simp at h
  | cons x xs ih =>
    intro j p h
    cases j with
    | zero => simp at h; subst h; rw [flat_cons]; simp [enc]
    | succ j =>
      rw [List.getElem?_cons_succ] at h
      rw [flat_cons, show (j + 1) * 3 = (enc x).length + j * 3 by rw [enc_len]; omega, ← List.drop_drop, List.drop_left]
      exact ih j p h

theorem flat_of (xs : List E) : ∀ (cs : List Value), cs.length = xs.length * 3 → (∀ (j : Nat) (p : E), xs[j]? = some p → (cs.drop (j * 3)).take 3 = enc p) → cs = flat xs := by
  induction xs with
  | nil => intro cs h _; exact List.eq_nil_of_length_eq_zero (by simpa using h)
  | cons x xs ih =>
    intro cs h hg
    have h0 := hg 0 x rfl
    simp at h0
    have hd : cs = cs.take 3 ++ cs.drop 3 := (List.take_append_drop 3 cs).symm
    rw [hd, flat_cons, h0]
    congr 1
    refine ih _ (by simp at h ⊢; omega) fun j p hj => ?_
    have := hg (j + 1) p (by rw [List.getElem?_cons_succ]; exact hj)
    rwa [List.drop_drop, show 3 + j * 3 = (j + 1) * 3 by omega]

theorem insAt_yes (l : List E) (e : E) (m : Nat) (h0 : 0 < m) (h : lt e (l[m - 1]?.getD default) = true) : insAt l e m = insAt l e (m - 1) := by
  obtain ⟨q, rfl⟩ : ∃ q, m = q + 1 := ⟨m - 1, by omega⟩
  rw [show q + 1 - 1 = q by omega] at h ⊢
  rw [insAt, if_pos h]

theorem insAt_no (l : List E) (e : E) (m : Nat) (h0 : 0 < m) (h : lt e (l[m - 1]?.getD default) = false) : insAt l e m = m := by
  obtain ⟨q, rfl⟩ : ∃ q, m = q + 1 := ⟨m - 1, by omega⟩
  rw [show q + 1 - 1 = q by omega] at h
  rw [insAt, if_neg (by rw [h]; simp)]

theorem set3 (A B : List Value) (x0 x1 x2 y0 y1 y2 : Value) (i : Nat) (hi : A.length = i) :
    (((A ++ x0 :: x1 :: x2 :: B).set i y0).set (i + 1) y1).set (i + 2) y2 = A ++ y0 :: y1 :: y2 :: B := by
  subst hi
  rw [List.set_append_right _ _ (Nat.le_refl _), Nat.sub_self, List.set_cons_zero, List.set_append_right _ _ (by omega), show A.length + 1 - A.length = 1 by omega, List.set_cons_succ, List.set_cons_zero,
    List.set_append_right _ _ (by omega), show A.length + 2 - A.length = 2 by omega]
  rfl

/-- The row behind append(list, e), copy(list[m+1:], list[m:]), list[m] = e. -/
theorem put_row (cur : List Value) (es : List E) (e : E) (m : Nat) (hm : m ≤ es.length) (ht : cur.take ((es.length + 1) * 3) = flat (es ++ [e])) :
    ((((splice cur ((m + 1) * 3) (flat (es.drop m))).set (m * 3) (.int .i64 e.a)).set (m * 3 + 1) (.int .i64 e.b)).set (m * 3 + 2) (.string e.s)).take ((es.length + 1) * 3) = flat (es.take m ++ e :: es.drop m) := by
  obtain ⟨tl, htl⟩ : ∃ tl, cur = flat (es ++ [e]) ++ tl := ⟨cur.drop ((es.length + 1) * 3), by rw [← ht, List.take_append_drop]⟩
  have hL : (flat (es ++ [e])).length = (es.length + 1) * 3 := by rw [flat_length]; simp
  have hA : (flat (es.take m)).length = m * 3 := by rw [flat_length]; simp; omega
  have hD : (flat (es.drop m)).length = (es.length - m) * 3 := by rw [flat_length]; simp
  -- the first m + 1 places
  have hsp : es ++ [e] = es.take m ++ (es ++ [e]).drop m := by
    conv => lhs; rw [← List.take_append_drop m (es ++ [e])]
    rw [List.take_append_of_le_length hm]
  obtain ⟨p, q, hpq⟩ : ∃ p q, (es ++ [e]).drop m = p :: q := by
    cases h : (es ++ [e]).drop m with
    | nil => rw [List.drop_eq_nil_iff] at h; simp at h; omega
    | cons p q => exact ⟨p, q, rfl⟩
  rw [hpq] at hsp
  have htk : cur.take ((m + 1) * 3) = flat (es.take m) ++ enc p := by
    rw [htl, hsp, flat_append, flat_cons, List.append_assoc, ← List.append_assoc (flat (es.take m))]
    rw [← List.append_assoc, List.append_assoc (flat (es.take m) ++ enc p)]
    exact List.take_left' (by rw [List.length_append, hA, enc_len]; omega)
  have hdr : cur.drop ((m + 1) * 3 + (flat (es.drop m)).length) = tl := by
    rw [htl, hD, show (m + 1) * 3 + (es.length - m) * 3 = (es.length + 1) * 3 by omega]
    exact List.drop_left' hL
  unfold splice
  rw [htk, hdr]
  have := set3 (flat (es.take m)) (flat (es.drop m) ++ tl) (.int .i64 p.a) (.int .i64 p.b) (.string p.s) (.int .i64 e.a) (.int .i64 e.b) (.string e.s) (m * 3) hA
  rw [show (flat (es.take m) ++ enc p) ++ (flat (es.drop m) ++ tl) = flat (es.take m) ++ Value.int .i64 p.a :: Value.int .i64 p.b :: Value.string p.s :: (flat (es.drop m) ++ tl) by simp [enc], this]
  rw [flat_append, flat_cons, show flat (es.take m) ++ Value.int .i64 e.a :: Value.int .i64 e.b :: Value.string e.s :: (flat (es.drop m) ++ tl) = (flat (es.take m) ++ (enc e ++ flat (es.drop m))) ++ tl by simp [enc]]
  exact List.take_left' (by simp only [List.length_append, hA, hD, enc_len]; omega)

theorem put_len (cur : List Value) (es : List E) (e : E) (m : Nat) (hm : m ≤ es.length) (h : (es.length + 1) * 3 ≤ cur.length) :
    ((((splice cur ((m + 1) * 3) (flat (es.drop m))).set (m * 3) (.int .i64 e.a)).set (m * 3 + 1) (.int .i64 e.b)).set (m * 3 + 2) (.string e.s)).length = cur.length := by
  simp only [List.length_set]
  exact length_splice _ _ _ (by rw [flat_length]; simp; omega)

theorem flat_drop (xs : List E) (m : Nat) (hm : m ≤ xs.length) : (flat xs).drop (m * 3) = flat (xs.drop m) := by
  have : flat xs = flat (xs.take m) ++ flat (xs.drop m) := by rw [← flat_append, List.take_append_drop]
  rw [this]
  exact List.drop_left' (by rw [flat_length]; simp; omega)

theorem src_cells (cur : List Value) (es : List E) (e : E) (m : Nat) (hm : m ≤ es.length) (ht : cur.take ((es.length + 1) * 3) = flat (es ++ [e])) : ∀ (j : Nat) (v : Value), (flat (es.drop m))[j]? = some v → cur[m * 3 + j]? = some v := by
  intro j v hj
  have hjl : j < (es.length - m) * 3 := by
    have := (List.getElem?_eq_some_iff.1 hj).1
    rw [flat_length] at this; simpa using this
  have h1 : (flat (es ++ [e]))[m * 3 + j]? = some v := by
    rw [← List.getElem?_drop, flat_drop _ _ (by simp; omega), List.drop_append_of_le_length hm, flat_append, List.getElem?_append_left (by rw [flat_length]; simpa using hjl)]
    exact hj
  rw [← ht, List.getElem?_take] at h1
  split at h1
  · exact h1
  · cases h1

theorem flat_one (xs : List E) : ∀ v ∈ flat xs, v.oneCell' = true := by
  intro v hv
  unfold flat at hv
  rw [List.mem_flatMap] at hv
  obtain ⟨x, _, hx⟩ := hv
  simp [enc] at hx
  rcases hx with rfl | rfl | rfl <;> rfl
end Go.Proofs.YtonajgipkpnpoaaDoor.SortU
/- The built-in copy between slices of elements of several cells. -/
namespace Go.CopyK
variable (P : Program)

theorem run_copyK (w : World) (dT sT ty elem : TypeId) (size : Nat) (g o dLen dCap : Nat) (a : Addr) (sLen sCap : Nat) (cur : Array Value) (t : TypeId) (cs : List Value)
    (hu : P.underlying dT = some (.slice elem)) (hs : (P.info? elem).map (·.size) = some size)
    (hg : w.heap[g]? = some (.cells cur t (0, 0))) (hn : cs.length = Nat.min sLen dLen * size)
    (hsrc : ∀ j v, cs[j]? = some v → w.cell? (a.add j) = some v) (hfit : o + cs.length ≤ cur.size) (h1 : ∀ v ∈ cs, v.oneCell' = true) :
    (Builtin.copy_ #[dT, sT] ty #[.slice (some ⟨g, o, none⟩) dLen dCap, .slice (some a) sLen sCap]).run P w =
      .ok (goInt (Nat.min sLen dLen)) (w.setRow g (cur.toList.take o ++ cs ++ cur.toList.drop (o + cs.length)).toArray) := by
  have hl := run_loadCells_list (P := P) w a cs hsrc
  have hst := run_storeCells_at P g o t cs 0 cur w hg (by simpa using hfit) h1
  cases hq : P.info? elem with
  | none => simp [hq] at hs
  | some i =>
    have hi : i.size = size := by simpa [hq] using hs
    simp [Builtin.copy_, run_underlying hu, Builtin.lenOf, Builtin.firstCells, sizeOf, typeInfo, hq, hi, ← hn, hl, hst]

theorem run_copyK_none (w : World) (dT sT ty elem : TypeId) (size : Nat) (dp sp : Option Addr) (dLen dCap sLen sCap : Nat) (hu : P.underlying dT = some (.slice elem)) (hs : (P.info? elem).map (·.size) = some size)
    (hn : Nat.min sLen dLen = 0) :
    (Builtin.copy_ #[dT, sT] ty #[.slice dp dLen dCap, .slice sp sLen sCap]).run P w = .ok (goInt 0) w := by
  cases hq : P.info? elem with
  | none => simp [hq] at hs
  | some i =>
    cases sp with
    | none => cases dp <;> simp [Builtin.copy_, run_underlying hu, Builtin.lenOf, Builtin.firstCells, sizeOf, typeInfo, hq, storeCells, hn]
    | some a =>
      have hl : (loadCells a 0).run P w = .ok #[] w := by
        have := run_loadCells_list (P := P) w a [] (fun j v h => by simp at h)
        simpa using this
      cases dp <;> simp [Builtin.copy_, run_underlying hu, Builtin.lenOf, Builtin.firstCells, sizeOf, typeInfo, hq, storeCells, hn, hl]

open Go.RowKit in
theorem wpList_copyK {P : Program} {w : World} {ops : Array Oper} {rest : List Oper} {o : Oper} {a : Act} {Q : Exit → Act → World → Prop} (hgd : o.guard = none) (d s : Operand) (dT sT : TypeId)
    (ho : o.op = .call { callee := .builtin .copy, args := #[d, s], argTypes := #[dT, sT] }) (elem : TypeId) (size : Nat) (hu : P.underlying dT = some (.slice elem)) (hsz : (P.info? elem).map (·.size) = some size) (h0 : 0 < size)
    (dp sp : Option Addr) (dLen dCap sLen sCap : Nat) (hd : a.eval d = .slice dp dLen dCap) (hs : a.eval s = .slice sp sLen sCap)
    (g off : Nat) (cur : List Value) (t : TypeId) (hg : w.heap[g]? = some (.cells cur.toArray t (0, 0))) (cs : List Value) (hn : cs.length = Nat.min sLen dLen * size)
    (hpos : 0 < cs.length → dp = some ⟨g, off, none⟩ ∧ ∃ ad, sp = some ad ∧ ∀ j v, cs[j]? = some v → w.cell? (ad.add j) = some v)
    (hfit : off + cs.length ≤ cur.length) (h1 : ∀ v ∈ cs, v.oneCell' = true) (B : Nat) (w0 : World) (hb : Below B w0 w) (hBg : B ≤ g)
    (h : ∀ w', Hid (w'.heap[g]? = some (.cells (splice cur off cs).toArray t (0, 0))) → Below B w0 w' → (∀ k, k ≠ g → w'.heap[k]? = w.heap[k]?) → wpList P ops Q rest (a.put o.dst (goInt (Nat.min sLen dLen))) w') :
    wpList P ops Q (o :: rest) a w := by
  by_cases hc : cs.length = 0
  · obtain rfl : cs = [] := List.eq_nil_of_length_eq_zero hc
    have hm : Nat.min sLen dLen = 0 := by
      rcases Nat.eq_zero_or_pos (Nat.min sLen dLen) with z | z
      · exact z
      · have := Nat.mul_pos z h0; simp at hn; omega
    refine wpList_plain hgd fun K hK => ?_
    have hrun := run_copyK_none (P := P) w dT sT o.type elem size dp sp dLen dCap sLen sCap hu hsz hm
    unfold Oper.wp
    simp [execOp, ho, resolve, invoke, builtin, hd, hs, hrun, Result.andThen]
    have hh := h w (show _ = _ by simpa [splice] using hg) hb (fun _ _ => rfl)
    rw [hm] at hh
    exact hK _ _ hh
  · obtain ⟨rfl, ad, rfl, hsrc⟩ := hpos (by omega)
    refine wpList_plain hgd fun K hK => ?_
    have hrun := run_copyK (P := P) w dT sT o.type elem size g off dLen dCap ad sLen sCap cur.toArray t cs hu hsz hg hn hsrc (by simpa using hfit) h1
    unfold Oper.wp
    simp [execOp, ho, resolve, invoke, builtin, hd, hs, hrun, Result.andThen]
    exact hK _ _ (h _ (show _ = _ by simpa [splice] using setRow_heap w g _ _ t _ hg) (below_setRow hb hBg _) (fun k hk => setRow_other w g k _ hk))
end Go.CopyK
