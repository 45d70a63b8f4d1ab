/- sort.stable and sort.Stable over whatever methods Len, Less and Swap do: the row is sorted, those alike in their order. -/
import Derived.Test.YtonajgipkpnpoaaGreatDoorC06
namespace Go.Proofs.YtonajgipkpnpoaaGreatDoor.SortS
open Go.RowKit Go.Sort Go.Sst
variable {α : Type} [Inhabited α] {lt : α → α → Bool} {rv : Value} {St : Array α → World → Prop}
structure Bl (lt : α → α → Bool) (bs a n : Nat) (d dk : Array α) : Prop where
  st : StabIn lt 0 n d dk
  bl : Blocks lt bs 0 a dk
theorem Bl.ins {bs a b n q : Nat} {d dk d' : Array α} (h : Bl lt bs a n d dk) (ha : a = q * bs) (hab : a ≤ b) (hbn : b ≤ n) (st : StabIn lt a b dk d') (so : SortedIn lt a b d') : Bl lt bs b n d d' :=
  ⟨h.st.trans (st.mono (Nat.zero_le _) hab hbn), blocks_snoc q ha (blocks_stab h.bl st (Or.inl (Nat.le_refl _))) so⟩
structure Bm (lt : α → α → Bool) (bs a n : Nat) (d dk : Array α) : Prop where
  st : StabIn lt 0 n d dk
  lo : Blocks lt (2 * bs) 0 a dk
  hi : Blocks lt bs a n dk
theorem Bm.start {bs n : Nat} {d dk : Array α} (h : Bl lt bs n n d dk) : Bm lt bs 0 n d dk := ⟨h.st, fun i j h1 h2 h3 => by omega, h.bl⟩
theorem Bm.left {bs a n q : Nat} {d dk : Array α} (h : Bm lt bs a n d dk) (ha : a = q * (2 * bs)) (hn : a + bs ≤ n) : SortedIn lt a (a + bs) dk :=
  blocks_sorted (q * 2) (by rw [ha, Nat.mul_assoc]) (Nat.le_refl _) (Nat.le_refl _) hn h.hi
theorem Bm.right {bs a b n q : Nat} {d dk : Array α} (h : Bm lt bs a n d dk) (ha : a = q * (2 * bs)) (hb : b ≤ a + 2 * bs) (hn : b ≤ n) : SortedIn lt (a + bs) b dk :=
  blocks_sorted (q * 2 + 1) (by rw [ha, Nat.add_mul, Nat.one_mul, Nat.mul_assoc]) (by omega) (by omega) hn h.hi
theorem Bm.only {bs a n q : Nat} {d dk : Array α} (h : Bm lt bs a n d dk) (ha : a = q * (2 * bs)) (hb : n ≤ a + bs) : SortedIn lt a n dk :=
  blocks_sorted (q * 2) (by rw [ha, Nat.mul_assoc]) hb (Nat.le_refl _) (Nat.le_refl _) h.hi
theorem Bm.step {bs a b n q : Nat} {d dk d' : Array α} (h : Bm lt bs a n d dk) (ha : a = q * (2 * bs)) (hab : a ≤ b) (hbn : b ≤ n) (st : StabIn lt a b dk d') (so : SortedIn lt a b d') : Bm lt bs b n d d' :=
  ⟨h.st.trans (st.mono (Nat.zero_le _) hab hbn), blocks_snoc q ha (blocks_stab h.lo st (Or.inl (Nat.le_refl _))) so,
    blocks_stab (fun i j h1 h2 h3 h4 => h.hi i j (by omega) h2 h3 h4) st (Or.inr (Nat.le_refl _))⟩
theorem Bm.done {bs n : Nat} {d dk : Array α} (h : Bm lt bs n n d dk) : Bl lt (2 * bs) n n d dk := ⟨h.st, h.lo⟩
theorem Bl.sorted {bs n : Nat} {d dk : Array α} (h : Bl lt bs n n d dk) (hn : n ≤ bs) : SortedIn lt 0 n dk :=
  blocks_sorted 0 (by omega) (by omega) (Nat.le_refl _) (Nat.le_refl _) h.bl
set_option maxHeartbeats 1600000 in
set_option maxRecDepth 100000 in
theorem stable_any (H : Srt lt rv St) (hO : SWO lt) (d : Array α) (w : World) (hS : St d w) (hsz : d.size < 1152921504606846976) :
    Calls Tryz.prog 107 #[.iface 125 rv, .int .i64 d.size] w fun e w' => e = .returned (.tuple #[]) ∧ Merged lt St 0 d.size d w' := by
  have hsz2 : d.size < 4611686018427387904 := by omega
  have HO := Lib.hid hO
  clear hO
  obtain ⟨n, hn⟩ : ∃ n, n = d.size := ⟨_, rfl⟩
  rw [← hn]
  have hnz : n < 1152921504606846976 := by omega
  have HN := Lib.hid hn
  clear hn hsz hsz2
  go_enter Tryz.func107, Tryz.ntmps107
  go_wp2
  go_loopw [5, 6] (fun va vb wr => ∃ (q a : Nat) (dk : Array α), va = .int .i64 a ∧ vb = .int .i64 ((a : Int) + 20) ∧ a ≤ n ∧ Hid (a = q * 20) ∧ St dk wr ∧ Hid (Bl lt 20 a n d dk)) (fun va _ _ => n - (intOf va).toNat)
  case atStart => exact ⟨0, 0, d, rfl, rfl, by omega, rfl, hS, StabIn.refl _ _ _, fun i j h1 h2 h3 => by omega⟩
  case round =>
    obtain ⟨q, a, dk, rfl, rfl, han, hq, hs, hB⟩ := hrel
    have hdk : Hid (dk.size = n) := by show _ = _; rw [hB.out.st.size, HN.out]
    by_cases hlt : a + 20 ≤ n
    · have hc := insertionSort_any H dk wr a (a + 20) hs (by omega) (by rw [hdk.out]; exact hlt) (by rw [hdk.out]; omega)
      have e1 : ((a + 20 : Nat) : Int) = (a : Int) + 20 := by omega
      rw [e1] at hc
      have E1 := Lib.hid e1
      clear e1
      go_wp2_with (go_at_call 123; refine hc.mono ?_; rintro e w' ⟨rfl, hs2⟩)
      go_roundw
      case rel =>
        have hi := insertionSort_stab HO.out dk a (a + 20) (by omega) (by rw [hdk.out]; exact hlt)
        exact ⟨q + 1, a + 20, _, by rw [E1.out], by rw [E1.out], hlt, by show _ = _; rw [hq.out]; omega, hs2, hB.out.ins hq.out (by omega) hlt hi.1 hi.2⟩
      case measure => simp [intOf]; omega
    · have hc := insertionSort_any H dk wr a n hs han (by rw [hdk.out]; omega) (by rw [hdk.out]; omega)
      have hi := insertionSort_stab HO.out dk a n han (by rw [hdk.out]; omega)
      have hB2 := Lib.hid (hB.out.ins hq.out han (Nat.le_refl _) hi.1 hi.2)
      clear hi
      go_wp2_with (go_at_call 123; refine hc.mono ?_; rintro e w' ⟨rfl, hs2⟩)
      generalize Sort.insertionSort lt dk a n = d1 at hs2 hB2
      clear hs hdk hB hq
      go_loopw [4] (fun vq wr => ∃ (bs : Nat) (dk : Array α), vq = .int .i64 bs ∧ 20 ≤ bs ∧ bs ≤ 2 * n + 20 ∧ St dk wr ∧ Hid (Bl lt bs n n d dk)) (fun vq _ => n - (intOf vq).toNat)
      case atStart => exact ⟨20, d1, rfl, by omega, by omega, hs2, hB2⟩
      case round =>
        obtain ⟨bs, dk, rfl, hb20, hbn, hs, hB⟩ := hrel
        by_cases hlt2 : bs < n
        · go_wp2
          obtain ⟨wo, rfl⟩ : ∃ wo : World, wo = wr := ⟨_, rfl⟩
          go_loopw [5, 6] (fun va vb wr => ∃ (q a : Nat) (dk : Array α), va = .int .i64 a ∧ vb = .int .i64 ((a : Int) + 2 * bs) ∧ a ≤ n ∧ Hid (a = q * (2 * bs)) ∧ St dk wr ∧ Hid (Bm lt bs a n d dk)) (fun va _ _ => n - (intOf va).toNat)
          case atStart => exact ⟨0, 0, dk, rfl, by congr 1; omega, by omega, by show _ = _; omega, hs, Bm.start hB.out⟩
          case round =>
            clear hs hB
            obtain ⟨q, a, dk, rfl, rfl, han, hq, hs, hM⟩ := hrel
            have hdk : Hid (dk.size = n) := by show _ = _; rw [hM.out.st.size, HN.out]
            by_cases hlt3 : a + 2 * bs ≤ n
            · have hc := symMerge_any H HO.out _ dk wr a (a + bs) (a + 2 * bs) (Nat.le_refl _) hs (by omega) (by omega) (by rw [hdk.out]; exact hlt3) (by rw [hdk.out]; omega) (hM.out.left hq.out (by omega)) (hM.out.right hq.out (Nat.le_refl _) hlt3)
              have e1 : ((a + 2 * bs : Nat) : Int) = (a : Int) + 2 * bs := by omega
              have e2 : ((a + bs : Nat) : Int) = (a : Int) + bs := by omega
              rw [e1, e2] at hc
              have E1 := Lib.hid e1
              clear e1 e2
              go_wp2_with (go_at_call 124; refine hc.mono ?_; rintro e w' ⟨rfl, hm⟩)
              obtain ⟨d', hs2, st', so'⟩ := hm
              have hM2 := Lib.hid (hM.out.step hq.out (by omega) hlt3 st' so')
              go_roundw
              case rel => exact ⟨q + 1, a + 2 * bs, d', by rw [E1.out], by rw [E1.out], hlt3, by show _ = _; rw [Nat.add_mul, ← hq.out]; omega, hs2, hM2⟩
              case measure => simp [intOf]; omega
            · by_cases hlt4 : a + bs < n
              · have hc := symMerge_any H HO.out _ dk wr a (a + bs) n (Nat.le_refl _) hs (by omega) hlt4 (by rw [hdk.out]; omega) (by rw [hdk.out]; omega) (hM.out.left hq.out (by omega)) (hM.out.right hq.out (by omega) (Nat.le_refl _))
                have e2 : ((a + bs : Nat) : Int) = (a : Int) + bs := by omega
                rw [e2] at hc
                clear e2
                go_wp2_with (go_at_call 124; refine hc.mono ?_; rintro e w' ⟨rfl, hm⟩)
                obtain ⟨d', hs2, st', so'⟩ := hm
                have hM2 := Lib.hid ((hM.out.step hq.out han (Nat.le_refl _) st' so').done)
                go_roundw
                case rel => exact ⟨2 * bs, d', by congr 1; omega, by omega, by omega, hs2, hM2⟩
                case measure => simp [intOf]; omega
              · have hM2 := Lib.hid ((hM.out.step hq.out han (Nat.le_refl _) (StabIn.refl _ _ _) (hM.out.only hq.out (by omega))).done)
                go_wp2
                go_roundw
                case rel => exact ⟨2 * bs, dk, by congr 1; omega, by omega, by omega, hs, hM2⟩
                case measure => simp [intOf]; omega
        · have hfin := Lib.hid (And.intro hB.out.st (hB.out.sorted (by omega)))
          go_wp2
          go_end0
          exact ⟨rfl, _, hs, hfin.out⟩
set_option maxRecDepth 100000 in
theorem Stable_any (H : Srt lt rv St) (hO : SWO lt) (d : Array α) (w : World) (hS : St d w) (hsz : d.size < 1152921504606846976) :
    Calls Tryz.prog 88 #[.iface 125 rv] w fun e w' => e = .returned (.tuple #[]) ∧ Merged lt St 0 d.size d w' := by
  have mN := H.mN
  have hl := H.len d w hS
  have hst := fun w1 h1 => stable_any H hO d w1 h1 hsz
  go_enter Tryz.func88, Tryz.ntmps88
  go_wp2_with fail
  refine hl.mono ?_
  rintro e1 w1 ⟨rfl, hs1⟩
  go_wp2_with fail
  refine (hst _ hs1).mono ?_
  rintro e2 w2 ⟨rfl, hm⟩
  go_wp2_with fail
  go_end0
  exact ⟨rfl, hm⟩
end Go.Proofs.YtonajgipkpnpoaaGreatDoor.SortS
