/- Hunks in memory: addEqualLines. toUnified's memory: the hunks that are done, the one under way. append of a piece of a row, which may be nothing, onto a row of one's own. -/
import Derived.Test.YtonajgipkpnpoaaGreatDoorC14
import Derived.Deep.RegionHeld3
import Derived.Deep.RegionLaw
import Derived.Deep.AppendLies
import Derived.Deep.DrawnRows
import Derived.OrdersHeld
import Derived.Test.YtonajgipkpnpoaaGreatDoorC02
import Derived.Maps.AppendAt
import Derived.Laws.OwnMore
namespace Go.Proofs.YtonajgipkpnpoaaGreatDoor.Un
open Go.RowKit Go.Proofs.YtonajgipkpnpoaaGreatDoorW.PrintWords Go.Proofs.YtonajgipkpnpoaaGreatDoorW.PrintLast Go.Proofs.YtonajgipkpnpoaaGreatDoorW.PrintMore Go.Uni
set_option linter.unusedVariables false
set_option linter.unusedSimpArgs false
structure Fr (w w' : World) (S : Nat → Prop) : Prop where
  os : w'.os = w.os
  tape : w'.tape = w.tape
  output : w'.output = w.output
  size : w.heap.size ≤ w'.heap.size
  block : ∀ k, k < w.heap.size → ¬ S k → w'.heap[k]? = w.heap[k]?
theorem Fr.refl (w : World) (S : Nat → Prop) : Fr w w S := ⟨rfl, rfl, rfl, Nat.le_refl _, fun _ _ _ => rfl⟩
theorem Fr.mono {w w' : World} {S S' : Nat → Prop} (h : Fr w w' S) (hs : ∀ k, S k → S' k) : Fr w w' S' := ⟨h.os, h.tape, h.output, h.size, fun k hk hn => h.block k hk (fun h2 => hn (hs k h2))⟩
theorem Fr.then_ {w w1 w2 : World} {S S2 : Nat → Prop} (h : Fr w w1 S) (k : Fr w1 w2 S2) (hs : ∀ k, S2 k → S k ∨ w.heap.size ≤ k) : Fr w w2 S :=
  ⟨k.os.trans h.os, k.tape.trans h.tape, k.output.trans h.output, Nat.le_trans h.size k.size, fun i hi hn => (k.block i (Nat.lt_of_lt_of_le hi h.size) (fun h2 => (hs i h2).elim hn (fun h3 => by omega))).trans (h.block i hi hn)⟩
theorem Fr.of_below {w w' : World} (h : Below w.heap.size w w') (S : Nat → Prop) : Fr w w' S := ⟨h.os, h.tape, h.output, h.size, fun k hk _ => h.block k hk⟩
theorem Fr.of_grown {w w' : World} {row : Option Nat} (h : w.grownBy w' row) : Fr w w' (fun k => some k = row) := ⟨h.os, h.tape, h.output, h.size, fun k hk hn => h.block k hk hn⟩
theorem Fr.set_ (w : World) (p : Addr) (u : Value) : Fr w (w.setCell p u) (fun k => k = p.block) := ⟨rfl, rfl, rfl, by simp [World.setCell], fun i _ hn => Below.heap_setCell w p u i hn⟩
theorem Fr.alloc_ (w : World) (o : Obj) (S : Nat → Prop) : Fr w (w.alloc o) S := Fr.of_below (below_alloc (Below.refl _ _) o) S
theorem Fr.drew_ (w : World) (S : Nat → Prop) : Fr w w.drew S := Fr.of_below (below_drew (Below.refl _ _)) S
theorem Fr.drewN_ (w : World) (n : Nat) (S : Nat → Prop) : Fr w (w.drewN n) S := Fr.of_below (pw_below_drewN (Below.refl _ _) n) S
theorem Fr.below {w w' : World} {S : Nat → Prop} (h : Fr w w' S) {B : Nat} (hB : B ≤ w.heap.size) (hs : ∀ k, S k → B ≤ k) : Below B w w' := ⟨h.os, h.tape, h.output, h.size, fun k hk => h.block k (Nat.lt_of_lt_of_le hk hB) (fun h2 => by have := hs k h2; omega)⟩
theorem Fr.heap {w w' : World} {S : Nat → Prop} (h : Fr w w' S) {k : Nat} {o : Obj} (hk : w.heap[k]? = some o) (hn : ¬ S k) : w'.heap[k]? = some o := (h.block k (Array.getElem?_eq_some_iff.1 hk).1 hn).trans hk
theorem Fr.of_drew {w w' : World} {S : Nat → Prop} (h : Fr w.drew w' S) : Fr w w' S := ⟨h.os, h.tape, h.output, h.size, h.block⟩
theorem own_fr {w w1 : World} {base : Nat} {e : TypeId} {size n : Nat} {v : Value} {xs : List Value} (h : w.ownsRow base e size v n xs) {S : Nat → Prop} (hf : Fr w w1 S) (hn : ∀ k, v.ownBlock = some k → ¬ S k) : w1.ownsRow base e size v n xs :=
  own_move h (fun k hk => hf.block k (own_lt h k hk) (hn k hk))
theorem own_ne_blk {w : World} {base : Nat} {e t : TypeId} {size n : Nat} {v : Value} {xs : List Value} (h : w.ownsRow base e size v n xs) {g : Nat} {cs : Array Value} {fr : Nat × Nat} (hg : w.heap[g]? = some (.cells cs t fr)) (hne : e ≠ t) : v.ownBlock ≠ some g := by
  rcases h.2 with ⟨rfl, _⟩ | ⟨b, cap, cur, rfl, _, hb, _⟩
  · simp [Value.ownBlock]
  · intro he
    simp only [Value.ownBlock, Option.some.injEq] at he
    subst he
    rw [hg] at hb
    injection hb with hb
    injection hb with _ ht
    exact hne ht.symm
theorem own_ne_own {w : World} {b b' : Nat} {e e' : TypeId} {s s' n n' : Nat} {v v' : Value} {xs xs' : List Value} (h : w.ownsRow b e s v n xs) (h' : w.ownsRow b' e' s' v' n' xs') (hne : e ≠ e') : ∀ k, v.ownBlock = some k → ¬ some k = v'.ownBlock := fun k hk he => by
  rcases own_type_ne h h' hne with h0 | h0
  · rw [h0] at hk; cases hk
  · exact h0 (hk.trans he)
def rowI (its : List It) : List Value := its.flatMap fun i => [.int .i64 (i.k : Int), .string (mkS i.l)]
theorem rowI_length (its : List It) : (rowI its).length = its.length * 2 := by
  induction its with
  | nil => rfl
  | cons i t ih => simp only [rowI, List.flatMap_cons, List.length_append, List.length_cons] at ih ⊢; simp at ih ⊢; omega
theorem rowI_append (a b : List It) : rowI (a ++ b) = rowI a ++ rowI b := by simp [rowI]
structure HkV (w : World) (B g : Nat) (v : Value) (h : Hk) : Prop where
  ge : B ≤ g
  blk : w.heap[g]? = some (.cells #[.int .i64 (h.f : Int), .int .i64 (h.t : Int), v] 91 (0, 0))
  row : w.ownsRow B 94 2 v h.its.length (rowI h.its)
theorem HkV.ne {w : World} {B g : Nat} {v : Value} {h : Hk} (k : HkV w B g v h) : v.ownBlock ≠ some g := own_ne_blk k.row k.blk (by decide)
theorem HkV.fr {w w' : World} {B g : Nat} {v : Value} {h : Hk} (k : HkV w B g v h) {S : Nat → Prop} (hf : Fr w w' S) (h1 : ¬ S g) (h2 : ∀ b, v.ownBlock = some b → ¬ S b) : HkV w' B g v h := ⟨k.ge, hf.heap k.blk h1, own_fr k.row hf h2⟩
theorem info_line : (Tryz.prog.info? 94).map (fun i => (i.zero, i.size, i.bytes)) = some (some (.agg #[.int .i64 0, .string ⟨#[]⟩]), 2, 24) := by kernel_rfl
theorem own_get {W : World} {B e size n : Nat} {v : Value} {xs : List Value} (h : W.ownsRow B e size v n xs) (i : Nat) (u : Value) (hi : xs[i]? = some u) : ∃ g cap, v = .slice (some ⟨g, 0, none⟩) n cap ∧ W.cell? ⟨g, i, none⟩ = some u ∧ n ≤ cap := by
  rcases h.2 with ⟨_, h0⟩ | ⟨g, cap, cur, hv, hb, hg, hn, hm, hs, ht⟩
  · have h1 := h.1
    subst h0
    rw [Nat.zero_mul, List.length_eq_zero_iff] at h1
    subst h1; simp at hi
  · refine ⟨g, cap, hv, ?_, hn⟩
    rw [blk_cell hg, ← Array.getElem?_toList]
    rw [← ht] at hi
    rw [List.getElem?_take] at hi
    split at hi
    · exact hi
    · cases hi
theorem rowS_get {L : List Bs} {i : Nat} (h : i < L.length) : (rowS L)[i]? = some (.string (mkS (L[i]))) := by
  unfold rowS; rw [List.getElem?_map, List.getElem?_eq_getElem h]; rfl
theorem eqs_succ {L : List Bs} {i j : Nat} (hij : i ≤ j) (hj : j < L.length) : eqs L i (j + 1) = eqs L i j ++ [⟨2, L[j]⟩] := by
  unfold eqs
  rw [List.take_succ_eq_append_getElem hj, List.drop_append_of_le_length (by rw [List.length_take]; omega)]
  simp
theorem eqs_nil {L : List Bs} {i j : Nat} (h : j ≤ i) : eqs L i j = [] := by unfold eqs; rw [seg_nil h]; rfl
def AeqPost (W : World) (B g : Nat) (v : Value) (h : Hk) (L : List Bs) (i j : Nat) (e : Ending) (w' : World) : Prop :=
  ∃ v', e = .returned (.int .i64 ((eqs L i j).length : Int)) ∧ HkV w' B g v' (hkAdd h (eqs L i j)) ∧ Fr W w' (fun k => k = g ∨ some k = v.ownBlock) ∧ (v'.ownBlock = v.ownBlock ∨ ∃ b, v'.ownBlock = some b ∧ W.heap.size ≤ b)
structure AeqAt (W wr : World) (B g : Nat) (v v' : Value) (h : Hk) (L : List Bs) (i c : Nat) : Prop where
  hk : HkV wr B g v' (hkAdd h (eqs L i c))
  fr : Fr W wr (fun k => k = g ∨ some k = v.ownBlock)
  ow : v'.ownBlock = v.ownBlock ∨ ∃ b, v'.ownBlock = some b ∧ W.heap.size ≤ b
theorem blk_after {W w1 : World} {row : Option Nat} {o : Obj} (hg : (W.alloc o).drew.grownBy w1 row) {k : Nat} (hk : k < W.heap.size) (hne : row ≠ some k) : w1.heap[k]? = W.heap[k]? := by
  have h1 := hg.block k (by show k < (W.alloc o).heap.size; simp; omega) (Ne.symm hne)
  exact h1.trans (Below.heap_alloc W o k hk)
theorem cell_after {W w1 : World} {row : Option Nat} {o : Obj} (hg : (W.alloc o).drew.grownBy w1 row) {a : Addr} {u : Value} (hc : W.cell? a = some u) (hne : row ≠ some a.block) : w1.cell? a = some u := by
  rw [World.cell?_of_block (blk_after hg (World.block_lt_of_cell? W a hc) hne)]; exact hc
theorem frz_after {W w1 : World} {row : Option Nat} {o : Obj} (hg : (W.alloc o).drew.grownBy w1 row) {a : Addr} (hc : W.frozen? a = false) (hk : a.block < W.heap.size) (hne : row ≠ some a.block) : w1.frozen? a = false := by
  rw [World.frozen?_of_block (blk_after hg hk hne)]; exact hc
theorem hk_push {wr w1 : World} {B g : Nat} {v' nv : Value} {h : Hk} {k : Nat} {l : Bs} {o : Obj} (hk : HkV wr B g v' h) (hg : (wr.alloc o).drew.grownBy w1 v'.ownBlock) (hown : w1.ownsRow B 94 2 nv (h.its.length + 1) (rowI h.its ++ [.int .i64 (k : Int), .string (mkS l)])) : HkV (w1.setCell ⟨g, 2, none⟩ nv) B g nv (hkAdd h [⟨k, l⟩]) := by
  have hb : w1.heap[g]? = some (.cells #[.int .i64 (h.f : Int), .int .i64 (h.t : Int), v'] 91 (0, 0)) := (blk_after hg (Array.getElem?_eq_some_iff.1 hk.blk).1 hk.ne).trans hk.blk
  refine ⟨hk.ge, ?_, ?_⟩
  · exact (by simpa using blk_set hb 2 nv : (w1.setCell ⟨g, 2, none⟩ nv).heap[g]? = some (.cells #[.int .i64 (h.f : Int), .int .i64 (h.t : Int), nv] 91 (0, 0)))
  · have h1 := own_setCell hown (p := ⟨g, 2, none⟩) (fun he => own_ne_blk hown hb (by decide) he.symm) nv
    unfold hkAdd
    rw [List.length_append, rowI_append]
    exact h1
theorem fr_push {W wr w1 : World} {g : Nat} {v v' nv : Value} {o : Obj} (hf : Fr W wr (fun k => k = g ∨ some k = v.ownBlock)) (ow : v'.ownBlock = v.ownBlock ∨ ∃ b, v'.ownBlock = some b ∧ W.heap.size ≤ b) (hg : (wr.alloc o).drew.grownBy w1 v'.ownBlock) (i : Nat) : Fr W (w1.setCell ⟨g, i, none⟩ nv) (fun k => k = g ∨ some k = v.ownBlock) := by
  refine Fr.then_ (Fr.then_ (Fr.then_ hf (Fr.alloc_ wr o (fun _ => False)) (fun _ h => h.elim)) (Fr.of_drew (Fr.of_grown hg)) (fun k hk => ?_)) (Fr.set_ w1 _ nv) (fun k hk => Or.inl (Or.inl hk))
  rcases ow with ow | ⟨b, ow, hb⟩
  · exact Or.inl (Or.inr (by rw [← ow]; exact hk))
  · rw [ow] at hk
    injection hk with hk
    exact Or.inr (by omega)
theorem ow_push {W wr : World} {v v' : Value} {gg n c : Nat} (hs : W.heap.size ≤ wr.heap.size) (ow : v'.ownBlock = v.ownBlock ∨ ∃ b, v'.ownBlock = some b ∧ W.heap.size ≤ b) (hat : v'.ownBlock = some gg ∨ gg = wr.heap.size + 1) : (Value.slice (some ⟨gg, 0, none⟩) n c).ownBlock = v.ownBlock ∨ ∃ b, (Value.slice (some ⟨gg, 0, none⟩) n c).ownBlock = some b ∧ W.heap.size ≤ b := by
  rcases hat with hat | hat
  · rw [hat] at ow
    rcases ow with ow | ⟨b, ow, hb⟩
    · exact Or.inl ow
    · exact Or.inr ⟨b, ow, hb⟩
  · exact Or.inr ⟨gg, rfl, by omega⟩
theorem hkAdd_add (h : Hk) (x y : List It) : hkAdd (hkAdd h x) y = hkAdd h (x ++ y) := by simp [hkAdd]
attribute [local go_sem ↓] Go.wp_at_zero Go.wp_at_succ
set_option maxRecDepth 100000 in
set_option maxHeartbeats 3200000 in
theorem addEqual_calls (W : World) (B g : Nat) (v : Value) (h : Hk) (L : List Bs) (vl : Value) (BL : Nat) (hk : HkV W B g v h) (hl : W.ownsRow BL 9 1 vl L.length (rowS L)) (hB : B ≤ W.heap.size) (hL : L.length ≤ 1099511627776) (hn : h.its.length ≤ 1099511627776) (start : Int) (j : Nat) (h0 : -1000 ≤ start) (h1 : start ≤ L.length) (hj : j ≤ 4398046511104) :
    Calls Tryz.prog 44 #[.pointer (some ⟨g, 0, none⟩), vl, .int .i64 start, .int .i64 j] W fun e w' => AeqPost W B g v h L start.toNat j e w' := by
  obtain ⟨iS, hiS, hzS0, hzS1, hzS2⟩ := info_parts info_line
  obtain ⟨AL, cL, rfl⟩ := own_slice hl
  have HL := Aside0.mk hl
  have HK := Aside0.mk hk
  clear hl hk
  go_enter Tryz.func44, Tryz.ntmps44
  go_wp2_with fail
  go_loopw [9, 10] (fun d i wr => ∃ (v' : Value) (x : Int), i = .int .i64 x ∧ start ≤ x ∧ (x ≤ j ∨ x = start) ∧ x ≤ L.length ∧ d = .int .i64 ((eqs L start.toNat x.toNat).length : Int) ∧ Aside0 (AeqAt W wr B g v v' h L start.toNat x.toNat)) (fun _ i _ => ((j : Int) - intOf i).toNat)
  case atStart =>
    refine ⟨v, start, rfl, Int.le_refl _, Or.inr rfl, h1, by rw [eqs_nil (Nat.le_refl _)]; rfl, ⟨⟨?_, Fr.refl _ _, Or.inl rfl⟩⟩⟩
    rw [eqs_nil (Nat.le_refl _)]
    have := HK.out
    unfold hkAdd
    rw [List.append_nil]
    exact this
  case round =>
    obtain ⟨v', x, rfl, x1, x2, x3, rfl, HA⟩ := hrel
    have hlen2 : (eqs L start.toNat x.toNat).length ≤ 1099511627776 := by have := eqs_length L start.toNat x.toNat; omega
    by_cases hlt : x < j
    · by_cases hneg : x < 0
      · go_wp2_with fail
        go_roundw
        case rel =>
          have e1 : eqs L start.toNat (x + 1).toNat = eqs L start.toNat x.toNat := by rw [eqs_nil (by omega), eqs_nil (by omega)]
          have h2 := HA.out.hk
          exact ⟨v', x + 1, rfl, by omega, Or.inl (by omega), by omega, by rw [e1], ⟨⟨by rw [e1]; exact h2, HA.out.fr, HA.out.ow⟩⟩⟩
        case measure => simp [intOf]; omega
      · by_cases hge : (L.length : Int) ≤ x
        · go_wp2_with fail
          go_ret
          have e1 : eqs L start.toNat x.toNat = eqs L start.toNat j := by rw [eqs_min L _ j, show min j L.length = x.toNat by omega]
          have h2 := HA.out.hk
          rw [e1] at h2
          exact ⟨v', by rw [← e1]; rfl, h2, HA.out.fr, HA.out.ow⟩
        · obtain ⟨n, rfl⟩ : ∃ n : Nat, x = n := ⟨x.toNat, by omega⟩
          have hnL : n < L.length := by omega
          have hsn : start.toNat ≤ n := by omega
          simp only [Int.toNat_natCast] at *
          obtain ⟨gl, cl, hgl, hcl, hlc⟩ := own_get (own_fr HL.out HA.out.fr (fun k hk hs => by
            rcases hs with rfl | hs
            · exact own_ne_blk HL.out HK.out.blk (by decide) hk
            · exact own_ne_own HL.out HK.out.row (by decide) k hk hs)) n _ (rowS_get hnL)
          injection hgl with hgl1 hgl2 hgl3
          subst hgl1 hgl3
          have hk' := HA.out.hk
          have c2 : wr.cell? ⟨g, 2, none⟩ = some v' := (blk_cell hk'.blk 2).trans rfl
          have f2 : wr.frozen? ⟨g, 2, none⟩ = false := blk_frozen hk'.blk 2
          have hgne := hk'.ne
          have hnegl : v'.ownBlock ≠ some gl := fun he => by
            have hrl : wr.ownsRow BL 9 1 (.slice (some ⟨gl, 0, none⟩) L.length cL) L.length (rowS L) := own_fr HL.out HA.out.fr (fun k hk hs => by
              rcases hs with rfl | hs
              · exact own_ne_blk HL.out HK.out.blk (by decide) hk
              · exact own_ne_own HL.out HK.out.row (by decide) k hk hs)
            exact own_ne_own hrl hk'.row (by decide) gl rfl he.symm
          have hrow := hk'.row
          have hBg : B ≤ wr.heap.size := Nat.le_trans hB HA.out.fr.size
          have hgs : g < wr.heap.size := (Array.getElem?_eq_some_iff.1 hk'.blk).1
          have hgls := World.block_lt_of_cell? wr _ hcl
          have hil : (hkAdd h (eqs L start.toNat n)).its.length ≤ 4398046511104 := by
            unfold hkAdd; rw [List.length_append]; omega
          have b0 : (0 : Int) ≤ (n : Int) := by omega
          have b1 : (n : Int) < (L.length : Int) := by omega
          have HROW := Aside0.mk hrow
          have HK' := Aside0.mk hk'
          have ne1 := World.new_ne wr _ c2
          have ne2 := World.new_ne wr _ hcl
          clear hrow hk'
          go_wp2_with fail
          go_region_law
            ((refine step_append_lies _ (by rfl) _ _ _ (by rfl) B 94 iS _ 2 24 Tryz.underlying89 hiS hzS0 hzS1 hzS2 rfl (by omega) v' _ _ (by rfl) ((HROW.out.alloc _).drew)
                ⟨wr.heap.size, 0, none⟩ 1 1 [.int .i64 2, .string (mkS L[n])] (by rfl) (by rfl) (World.news_of_block (cs := #[.int .i64 2, .string (mkS L[n])]) (t := 94) (fr := (0, 0)) (heap_alloc_new wr _)) (by simp [Value.oneCell'])
                (by omega) (by unfold maxLen; omega) (by omega) (by simp; omega) (wr.heap.size + 1) (by simp) ?_; intro gg cap w1 hown1 hgrow hat hlt1; have c3 := cell_after hgrow c2 hgne; have f3 := frz_after hgrow f2 hgs hgne))
          all_goals
            have HC := HK'
            have HG1 := Aside0.mk hgrow
            have HO1 := Aside0.mk hown1
            clear hgrow hown1 c3 f3
            go_wp2_with fail
            go_roundw
            case rel =>
              have e1 := eqs_succ (L := L) hsn hnL
              refine ⟨.slice (some ⟨gg, 0, none⟩) ((hkAdd h (eqs L start.toNat n)).its.length + 1) cap, (n : Int) + 1, rfl, by omega, Or.inl (by omega), by omega, ?_, ⟨⟨?_, fr_push HA.out.fr HA.out.ow HG1.out 2, ow_push HA.out.fr.size HA.out.ow hat⟩⟩⟩
              · rw [show ((n : Int) + 1).toNat = n + 1 by omega, e1, List.length_append]; go_num
              · rw [show ((n : Int) + 1).toNat = n + 1 by omega, e1, ← hkAdd_add]
                exact hk_push HK'.out HG1.out HO1.out
            case measure => simp [intOf]; omega
    · go_wp2_with fail
      go_ret
      have e1 : eqs L start.toNat x.toNat = eqs L start.toNat j := by
        rcases x2 with x2 | x2
        · rw [show x.toNat = j by omega]
        · subst x2
          rw [eqs_nil (Nat.le_refl _), eqs_nil (by omega)]
      have h2 := HA.out.hk
      rw [e1] at h2
      exact ⟨v', by rw [← e1]; rfl, h2, HA.out.fr, HA.out.ow⟩
end Go.Proofs.YtonajgipkpnpoaaGreatDoor.Un
namespace Go.Proofs.YtonajgipkpnpoaaGreatDoor.Un
open Go.RowKit Go.Proofs.YtonajgipkpnpoaaGreatDoorW.PrintWords Go.Proofs.YtonajgipkpnpoaaGreatDoorW.PrintLast Go.Proofs.YtonajgipkpnpoaaGreatDoorW.PrintMore Go.Uni
set_option linter.unusedVariables false
set_option linter.unusedSimpArgs false
def rowE (es : List BE) : List Value := es.flatMap fun e => [.int .i64 (e.s : Int), .int .i64 (e.e : Int), .string (mkS e.new)]
theorem rowE_length (es : List BE) : (rowE es).length = es.length * 3 := by
  induction es with
  | nil => rfl
  | cons i t ih => simp only [rowE, List.flatMap_cons, List.length_append, List.length_cons] at ih ⊢; simp at ih ⊢; omega
theorem rowE_append (a b : List BE) : rowE (a ++ b) = rowE a ++ rowE b := by simp [rowE]
theorem rowE_get (es : List BE) (i : Nat) (e : BE) (h : es[i]? = some e) : (rowE es)[i * 3]? = some (.int .i64 (e.s : Int)) ∧ (rowE es)[i * 3 + 1]? = some (.int .i64 (e.e : Int)) ∧ (rowE es)[i * 3 + 2]? = some (.string (mkS e.new)) := by
  have hlt : i < es.length := (List.getElem?_eq_some_iff.1 h).1
  have e0 : es = es.take i ++ e :: es.drop (i + 1) := by
    rw [← (List.getElem?_eq_some_iff.1 h).2, ← List.drop_eq_getElem_cons hlt, List.take_append_drop]
  have hl : (rowE (es.take i)).length = i * 3 := by rw [rowE_length, List.length_take]; congr 1; omega
  rw [e0, rowE_append]
  refine ⟨?_, ?_, ?_⟩
  · rw [List.getElem?_append_right (by omega), hl, Nat.sub_self]; rfl
  · rw [List.getElem?_append_right (by omega), hl, show i * 3 + 1 - i * 3 = 1 by omega]; rfl
  · rw [List.getElem?_append_right (by omega), hl, show i * 3 + 2 - i * 3 = 2 by omega]; rfl
def EdB (w : World) (b : Nat) (y : BE) : Prop := w.heap[b]? = some (.cells #[.int .i64 (y.s : Int), .int .i64 (y.e : Int), .string (mkS y.new)] 68 (0, 0))
abbrev HX := Nat × Value × Hk
structure UMem (w : World) (B gu : Nat) (fa fb : Value) (hs : List HX) (vh : Value) : Prop where
  ge : B ≤ gu
  blk : w.heap[gu]? = some (.cells #[fa, fb, vh] 62 (0, 0))
  row : w.ownsRow B 86 1 vh hs.length (hs.map fun x => .pointer (some ⟨x.1, 0, none⟩))
  done : ∀ x ∈ hs, HkV w B x.1 x.2.1 x.2.2
def ApartH (hs : List HX) (g : Nat) (v : Value) : Prop := ∀ x ∈ hs, x.1 ≠ g ∧ ∀ b, x.2.1.ownBlock = some b → v.ownBlock ≠ some b
def CurH (w : World) (B : Nat) (hs : List HX) (p : Value) : Option Hk → Prop
  | none => p = .pointer none
  | some h => ∃ g v, p = .pointer (some ⟨g, 0, none⟩) ∧ HkV w B g v h ∧ ApartH hs g v
structure TuR (W w : World) (gu : Nat) (fa fb : ByteArray) (L : List Bs) (ys : List BE) (AE AL : Option Addr) (cE cL : Nat) (H : List Hk) (o : Option Hk) (p : Value) (hs : List HX) (vh : Value) : Prop where
  hh : hs.map (fun x => x.2.2) = H
  um : UMem w W.heap.size gu (.string fa) (.string fb) hs vh
  cu : CurH w W.heap.size hs p o
  oe : w.ownsRow 0 68 3 (.slice AE ys.length cE) ys.length (rowE ys)
  ol : w.ownsRow 0 9 1 (.slice AL L.length cL) L.length (rowS L)
  bl : Below W.heap.size W w
  rb : w.heap[W.heap.size]? = some (.cells #[.string ⟨#[]⟩, .string ⟨#[]⟩, .slice none 0 0] 62 (0, 0)) ∧ gu ≠ W.heap.size
def TuM (W w : World) (gu : Nat) (fa fb : ByteArray) (L : List Bs) (ys : List BE) (AE AL : Option Addr) (cE cL : Nat) (H : List Hk) (o : Option Hk) (p : Value) : Prop := ∃ hs vh, TuR W w gu fa fb L ys AE AL cE cL H o p hs vh
section
variable {W w w' : World} {gu : Nat} {fa fb : ByteArray} {L : List Bs} {ys : List BE} {AE AL : Option Addr} {cE cL : Nat} {H : List Hk} {o : Option Hk} {p : Value} {hs : List HX} {vh : Value}
theorem CurH.fr {B : Nat} (h : CurH w B hs p o) (hf : Fr w w' (fun _ => False)) : CurH w' B hs p o := by
  cases o with
  | none => exact h
  | some k =>
    obtain ⟨g, v, h1, h2, h3⟩ := h
    exact ⟨g, v, h1, h2.fr hf id (fun _ _ => id), h3⟩
theorem UMem.fr {B : Nat} {fa fb : Value} (h : UMem w B gu fa fb hs vh) (hf : Fr w w' (fun _ => False)) : UMem w' B gu fa fb hs vh :=
  ⟨h.ge, hf.heap h.blk id, own_fr h.row hf (fun _ _ => id), fun x hx => (h.done x hx).fr hf id (fun _ _ => id)⟩
theorem TuM.keep (h : TuM W w gu fa fb L ys AE AL cE cL H o p) (hf : Fr w w' (fun _ => False)) : TuM W w' gu fa fb L ys AE AL cE cL H o p := by
  obtain ⟨hs, vh, h⟩ := h
  exact ⟨hs, vh, h.hh, h.um.fr hf, h.cu.fr hf, own_fr h.oe hf (fun _ _ => id), own_fr h.ol hf (fun _ _ => id), h.bl.trans (hf.below h.bl.size (fun _ h => h.elim)), hf.heap h.rb.1 id, h.rb.2⟩
theorem TuM.push {k : Hk} (h : TuM W w gu fa fb L ys AE AL cE cL H (some k) p) : ∃ g v, p = .pointer (some ⟨g, 0, none⟩) ∧ HkV w W.heap.size g v k ∧ ∀ w' v' k', HkV w' W.heap.size g v' k' → Fr w w' (fun b => b = g ∨ some b = v.ownBlock) → (v'.ownBlock = v.ownBlock ∨ ∃ b, v'.ownBlock = some b ∧ w.heap.size ≤ b) → TuM W w' gu fa fb L ys AE AL cE cL H (some k') p := by
  obtain ⟨hs, vh, h⟩ := h
  obtain ⟨g, v, h1, h2, h3⟩ := h.cu
  refine ⟨g, v, h1, h2, fun w' v' k' k1 k2 k3 => ⟨hs, vh, h.hh, ⟨h.um.ge, k2.heap h.um.blk ?_, own_fr h.um.row k2 ?_, fun x hx => (h.um.done x hx).fr k2 ?_ ?_⟩, ⟨g, v', h1, k1, fun x hx => ⟨(h3 x hx).1, fun b hb => ?_⟩⟩, own_fr h.oe k2 ?_, own_fr h.ol k2 ?_, h.bl.trans (k2.below h.bl.size ?_), k2.heap h.rb.1 ?_, h.rb.2⟩⟩
  · rintro (rfl | hs2)
    · have := h.um.blk
      rw [h2.blk] at this
      injection this with this
      injection this with _ ht
      exact absurd ht (by decide)
    · exact own_ne_blk h2.row h.um.blk (by decide) hs2.symm
  · rintro b hb (rfl | hs2)
    · exact own_ne_blk h.um.row h2.blk (by decide) hb
    · exact own_ne_own h.um.row h2.row (by decide) b hb hs2
  · rintro (he | hs2)
    · exact (h3 x hx).1 he
    · exact own_ne_blk h2.row (h.um.done x hx).blk (by decide) hs2.symm
  · rintro b hb (rfl | hs2)
    · exact own_ne_blk (h.um.done x hx).row h2.blk (by decide) hb
    · exact (h3 x hx).2 b hb hs2.symm
  · rcases k3 with k3 | ⟨b2, k3, k4⟩
    · rw [k3]; exact (h3 x hx).2 b hb
    · rw [k3]
      intro he
      have := own_lt (h.um.done x hx).row b hb
      injection he with he
      omega
  · rintro b hb (rfl | hs2)
    · exact own_ne_blk h.oe h2.blk (by decide) hb
    · exact own_ne_own h.oe h2.row (by decide) b hb hs2
  · rintro b hb (rfl | hs2)
    · exact own_ne_blk h.ol h2.blk (by decide) hb
    · exact own_ne_own h.ol h2.row (by decide) b hb hs2
  · rintro b (rfl | hb)
    · exact h2.ge
    · exact own_base h2.row b hb.symm
  · rintro (he | hs2)
    · have := h.rb.1
      rw [he, h2.blk] at this
      injection this with this
      injection this with _ ht
      exact absurd ht (by decide)
    · exact own_ne_blk h2.row h.rb.1 (by decide) hs2.symm
theorem TuM.set_f {k : Hk} {g : Nat} (h : TuM W w gu fa fb L ys AE AL cE cL H (some k) (.pointer (some ⟨g, 0, none⟩))) (f : Nat) : TuM W (w.setCell ⟨g, 0, none⟩ (.int .i64 (f : Int))) gu fa fb L ys AE AL cE cL H (some ⟨f, k.t, k.its⟩) (.pointer (some ⟨g, 0, none⟩)) := by
  obtain ⟨g2, v, h1, h2, h3⟩ := h.push
  obtain rfl : g = g2 := by injection h1 with h1; injection h1 with h1; injection h1
  refine h3 _ v _ ⟨h2.ge, ?_, ?_⟩ ((Fr.set_ w _ _).mono (fun b hb => Or.inl hb)) (Or.inl rfl)
  · exact (by simpa using blk_set h2.blk 0 (.int .i64 (f : Int)) : (w.setCell ⟨g, 0, none⟩ (.int .i64 (f : Int))).heap[g]? = some (.cells #[.int .i64 (f : Int), .int .i64 (k.t : Int), v] 91 (0, 0)))
  · exact own_setCell h2.row (p := ⟨g, 0, none⟩) (fun he => h2.ne he.symm) _
theorem TuM.set_t {k : Hk} {g : Nat} (h : TuM W w gu fa fb L ys AE AL cE cL H (some k) (.pointer (some ⟨g, 0, none⟩))) (f : Nat) : TuM W (w.setCell ⟨g, 1, none⟩ (.int .i64 (f : Int))) gu fa fb L ys AE AL cE cL H (some ⟨k.f, f, k.its⟩) (.pointer (some ⟨g, 0, none⟩)) := by
  obtain ⟨g2, v, h1, h2, h3⟩ := h.push
  obtain rfl : g = g2 := by injection h1 with h1; injection h1 with h1; injection h1
  refine h3 _ v _ ⟨h2.ge, ?_, ?_⟩ ((Fr.set_ w _ _).mono (fun b hb => Or.inl hb)) (Or.inl rfl)
  · exact (by simpa using blk_set h2.blk 1 (.int .i64 (f : Int)) : (w.setCell ⟨g, 1, none⟩ (.int .i64 (f : Int))).heap[g]? = some (.cells #[.int .i64 (k.f : Int), .int .i64 (f : Int), v] 91 (0, 0)))
  · exact own_setCell h2.row (p := ⟨g, 1, none⟩) (fun he => h2.ne he.symm) _
theorem TuM.cells {k : Hk} {g : Nat} (h : TuM W w gu fa fb L ys AE AL cE cL H (some k) (.pointer (some ⟨g, 0, none⟩))) : w.cell? ⟨g, 0, none⟩ = some (.int .i64 (k.f : Int)) ∧ w.cell? ⟨g, 1, none⟩ = some (.int .i64 (k.t : Int)) ∧ w.frozen? ⟨g, 0, none⟩ = false ∧ w.frozen? ⟨g, 1, none⟩ = false := by
  obtain ⟨g2, v, h1, h2, h3⟩ := h.push
  obtain rfl : g = g2 := by injection h1 with h1; injection h1 with h1; injection h1
  exact ⟨(blk_cell h2.blk 0).trans rfl, (blk_cell h2.blk 1).trans rfl, blk_frozen h2.blk 0, blk_frozen h2.blk 1⟩
theorem TuM.new_ (h : TuM W w gu fa fb L ys AE AL cE cL H none p) (f t : Nat) : TuM W (w.alloc (.cells #[.int .i64 (f : Int), .int .i64 (t : Int), .slice none 0 0] 91)) gu fa fb L ys AE AL cE cL H (some ⟨f, t, []⟩) (.pointer (some ⟨w.heap.size, 0, none⟩)) := by
  obtain ⟨hs, vh, h⟩ := h
  have hf := Fr.alloc_ w (.cells #[.int .i64 (f : Int), .int .i64 (t : Int), .slice none 0 0] 91) (fun _ => False)
  refine ⟨hs, vh, h.hh, h.um.fr hf, ⟨w.heap.size, .slice none 0 0, rfl, ⟨h.bl.size, new_obj _ _, ⟨rfl, Or.inl ⟨rfl, rfl⟩⟩⟩, fun x hx => ⟨?_, fun b hb => by simp [Value.ownBlock]⟩⟩, own_fr h.oe hf (fun _ _ => id), own_fr h.ol hf (fun _ _ => id), h.bl.trans (hf.below h.bl.size (fun _ h => h.elim)), hf.heap h.rb.1 id, h.rb.2⟩
  have := (Array.getElem?_eq_some_iff.1 (h.um.done x hx).blk).1
  omega
theorem TuM.flush {k : Hk} (h : TuM W w gu fa fb L ys AE AL cE cL H (some k) p) : ∃ g vh n xs, p = .pointer (some ⟨g, 0, none⟩) ∧ w.heap[gu]? = some (.cells #[.string fa, .string fb, vh] 62 (0, 0)) ∧ n = H.length ∧ w.ownsRow W.heap.size 86 1 vh n xs ∧ W.heap.size ≤ w.heap.size ∧ vh.ownBlock ≠ some gu ∧
    ∀ w1 vh' ob, w1.ownsRow W.heap.size 86 1 vh' (n + 1) (xs ++ [.pointer (some ⟨g, 0, none⟩)]) → (w.alloc ob).grownBy w1 vh.ownBlock → TuM W (w1.setCell ⟨gu, 2, none⟩ vh') gu fa fb L ys AE AL cE cL (H ++ [k]) none (.pointer none) ∧ (∀ b y, EdB w b y → EdB (w1.setCell ⟨gu, 2, none⟩ vh') b y) ∧ w.heap.size ≤ w1.heap.size ∧ w1.cell? ⟨gu, 2, none⟩ = some vh ∧ w1.frozen? ⟨gu, 2, none⟩ = false ∧ w1.heap[gu]? = some (.cells #[.string fa, .string fb, vh] 62 (0, 0)) ∧ w1.heap[W.heap.size]? = some (.cells #[.string ⟨#[]⟩, .string ⟨#[]⟩, .slice none 0 0] 62 (0, 0)) := by
  obtain ⟨hs, vh, h⟩ := h
  obtain ⟨g, v, h1, h2, h3⟩ := h.cu
  refine ⟨g, vh, hs.length, _, h1, h.um.blk, by rw [← h.hh, List.length_map], h.um.row, h.bl.size, own_ne_blk h.um.row h.um.blk (by decide), fun w1 vh' ob k1 k2 => ?_⟩
  have hf : Fr w (w1.setCell ⟨gu, 2, none⟩ vh') (fun b => b = gu ∨ some b = vh.ownBlock) :=
    Fr.then_ (Fr.then_ (Fr.alloc_ w ob _) (Fr.of_grown k2) (fun b hb => Or.inl (Or.inr hb))) (Fr.set_ w1 _ _) (fun b hb => Or.inl (Or.inl hb))
  have hb1 : w1.heap[gu]? = some (.cells #[.string fa, .string fb, vh] 62 (0, 0)) := by
    have hlt := (Array.getElem?_eq_some_iff.1 h.um.blk).1
    exact (k2.block gu (by simp; omega) (fun he => own_ne_blk h.um.row h.um.blk (by decide) he.symm)).trans ((Below.heap_alloc w ob gu hlt).trans h.um.blk)
  have ne1 : ∀ {e : TypeId} {s m b0 : Nat} {u : Value} {xs : List Value}, w.ownsRow b0 e s u m xs → e ≠ 62 → e ≠ 86 → ∀ b, u.ownBlock = some b → ¬ (b = gu ∨ some b = vh.ownBlock) := fun hu e1 e2 b hb hs2 => by
    rcases hs2 with rfl | hs2
    · exact own_ne_blk hu h.um.blk e1 hb
    · exact own_ne_own hu h.um.row e2 b hb hs2
  have ne2 : ∀ {k : Nat} {cs : Array Value} {t : TypeId}, w.heap[k]? = some (.cells cs t (0, 0)) → t ≠ 62 → t ≠ 86 → ¬ (k = gu ∨ some k = vh.ownBlock) := fun hk e1 e2 hs2 => by
    rcases hs2 with rfl | hs2
    · rw [h.um.blk] at hk
      injection hk with hk
      injection hk with _ ht
      exact e1 ht.symm
    · exact own_ne_blk h.um.row hk (fun e => e2 e.symm) hs2.symm
  have keepH : ∀ {g : Nat} {v : Value} {k : Hk}, HkV w W.heap.size g v k → HkV (w1.setCell ⟨gu, 2, none⟩ vh') W.heap.size g v k := fun hk => hk.fr hf (ne2 hk.blk (by decide) (by decide)) (ne1 hk.row (by decide) (by decide))
  refine ⟨⟨hs ++ [(g, v, k)], vh', by rw [List.map_append, h.hh]; rfl, ⟨h.um.ge, ?_, ?_, fun x hx => ?_⟩, rfl, own_fr h.oe hf (ne1 h.oe (by decide) (by decide)), own_fr h.ol hf (ne1 h.ol (by decide) (by decide)), h.bl.trans (hf.below h.bl.size ?_), hf.heap h.rb.1 ?_, h.rb.2⟩, fun b y hb => hf.heap hb (ne2 hb (by decide) (by decide)), by have := k2.size; simp at this; omega, (blk_cell hb1 2).trans rfl, blk_frozen hb1 2, hb1, ?_⟩
  · exact (by simpa using blk_set hb1 2 vh' : (w1.setCell ⟨gu, 2, none⟩ vh').heap[gu]? = some (.cells #[.string fa, .string fb, vh'] 62 (0, 0)))
  · have := own_setCell k1 (p := ⟨gu, 2, none⟩) (fun he => own_ne_blk k1 hb1 (by decide) he.symm) vh'
    rw [List.length_append, List.map_append]
    exact this
  · rcases List.mem_append.1 hx with hx | hx
    · exact keepH (h.um.done x hx)
    · obtain rfl : x = (g, v, k) := by simpa using hx
      exact keepH h2
  · rintro b (rfl | hb)
    · exact h.um.ge
    · exact own_base h.um.row b hb.symm
  · rintro (he | hs2)
    · exact h.rb.2 he.symm
    · exact own_ne_blk h.um.row h.rb.1 (by decide) hs2.symm
  · have hlt := (Array.getElem?_eq_some_iff.1 h.rb.1).1
    exact (k2.block _ (by simp; omega) (fun he => own_ne_blk h.um.row h.rb.1 (by decide) he.symm)).trans ((Below.heap_alloc w ob _ hlt).trans h.rb.1)
def AddPost (W w : World) (gu : Nat) (fa fb : ByteArray) (L : List Bs) (ys : List BE) (AE AL : Option Addr) (cE cL : Nat) (H : List Hk) (k : Hk) (p : Value) (i j : Nat) (e : Ending) (w' : World) : Prop :=
  e = .returned (.int .i64 ((eqs L i j).length : Int)) ∧ TuM W w' gu fa fb L ys AE AL cE cL H (some (hkAdd k (eqs L i j))) p ∧ (∀ b y, EdB w b y → EdB w' b y) ∧ w.heap.size ≤ w'.heap.size
theorem TuM.add {k : Hk} {g : Nat} (h : TuM W w gu fa fb L ys AE AL cE cL H (some k) (.pointer (some ⟨g, 0, none⟩))) (hL : L.length ≤ 1099511627776) (hn : k.its.length ≤ 1099511627776) (start : Int) (j : Nat) (h0 : -1000 ≤ start) (h1 : start ≤ L.length) (hj : j ≤ 4398046511104) :
    Calls Tryz.prog 44 #[.pointer (some ⟨g, 0, none⟩), .slice AL L.length cL, .int .i64 start, .int .i64 j] w fun e w' => AddPost W w gu fa fb L ys AE AL cE cL H k (.pointer (some ⟨g, 0, none⟩)) start.toNat j e w' := by
  obtain ⟨hs, vh, hr⟩ := id h
  obtain ⟨g2, v, p1, p2, p3⟩ := h.push
  obtain rfl : g = g2 := by injection p1 with p1; injection p1 with p1; injection p1
  refine (addEqual_calls w W.heap.size g v k L _ 0 p2 hr.ol hr.bl.size hL hn start j h0 h1 hj).mono ?_
  rintro e w' ⟨v', rfl, q1, q2, q3⟩
  refine ⟨rfl, p3 w' v' _ q1 q2 q3, fun b y hb => ?_, q2.size⟩
  refine q2.heap hb ?_
  rintro (rfl | hs2)
  · have := p2.blk
    rw [hb] at this
    injection this with this
    injection this with _ ht
    exact absurd ht (by decide)
  · exact own_ne_blk p2.row hb (by decide) hs2.symm
theorem TuM.newAdd (h : TuM W w gu fa fb L ys AE AL cE cL H none p) (hL : L.length ≤ 1000000) (a tl last ctx : Nat) (hla : last ≤ a) (ha : a ≤ L.length) (hc : ctx ≤ 8) :
    Calls Tryz.prog 44 #[.pointer (some ⟨w.heap.size, 0, none⟩), .slice AL L.length cL, .int .i64 ((a : Int) - (ctx : Int)), .int .i64 (a : Int)] (w.alloc (.cells #[.int .i64 ((a : Int) + 1), .int .i64 ((tl : Int) + ((a : Int) - (last : Int)) + 1), .slice none 0 0] 91))
      fun e w' => ∃ d : Nat, e = .returned (.int .i64 (d : Int)) ∧ d = (eqs L (a - ctx) a).length ∧ (d ≤ a ∧ d ≤ ctx) ∧ TuM W w' gu fa fb L ys AE AL cE cL H (some ⟨a + 1, tl + (a - last) + 1, eqs L (a - ctx) a⟩) (.pointer (some ⟨w.heap.size, 0, none⟩)) ∧ (∀ b y, EdB w b y → EdB w' b y) ∧ w.heap.size ≤ w'.heap.size := by
  have hn := h.new_ (a + 1) (tl + (a - last) + 1)
  rw [show ((a + 1 : Nat) : Int) = (a : Int) + 1 by omega, show ((tl + (a - last) + 1 : Nat) : Int) = (tl : Int) + ((a : Int) - (last : Int)) + 1 by omega] at hn
  refine (hn.add (by omega) (by show ([] : List It).length ≤ _; simp) ((a : Int) - (ctx : Int)) a (by omega) (by omega) (by omega)).mono ?_
  rintro e w' ⟨rfl, q1, q2, q3⟩
  rw [show ((a : Int) - (ctx : Int)).toNat = a - ctx by omega] at q1
  rw [show ((a : Int) - (ctx : Int)).toNat = a - ctx by omega]
  refine ⟨_, rfl, rfl, by have := eqs_length L (a - ctx) a; omega, q1, fun b y hb => q2 b y ((Below.heap_alloc _ _ _ (Array.getElem?_eq_some_iff.1 hb).1).trans hb), by simp at q3; omega⟩
theorem TuM.pushOf {k : Hk} {g : Nat} {f t : Nat} (h : TuM W w gu fa fb L ys AE AL cE cL H (some k) (.pointer (some ⟨g, 0, none⟩))) (b : Nat) (y : BE) (hb : EdB w b y) (i : Nat) (u : Value) : EdB (w.setCell ⟨g, i, none⟩ u) b y := by
  obtain ⟨g2, v, p1, p2, p3⟩ := h.push
  obtain rfl : g = g2 := by injection p1 with p1; injection p1 with p1; injection p1
  refine (Below.heap_setCell w _ u b ?_).trans hb
  rintro rfl
  have := p2.blk
  unfold EdB at hb
  rw [hb] at this
  injection this with this
  injection this with _ ht
  exact absurd ht (by decide)
theorem TuM.opens {k : Hk} {g : Nat} (h : TuM W w gu fa fb L ys AE AL cE cL H (some k) (.pointer (some ⟨g, 0, none⟩))) : ∃ v, w.cell? ⟨g, 2, none⟩ = some v ∧ w.frozen? ⟨g, 2, none⟩ = false ∧ w.ownsRow W.heap.size 94 2 v k.its.length (rowI k.its) ∧ v.ownBlock ≠ some g ∧ g < w.heap.size ∧ W.heap.size ≤ w.heap.size ∧
    ∀ w1 gg cap o kk l, (w.alloc o).drew.grownBy w1 v.ownBlock → w1.ownsRow W.heap.size 94 2 (.slice (some ⟨gg, 0, none⟩) (k.its.length + 1) cap) (k.its.length + 1) (rowI k.its ++ [.int .i64 ((kk : Nat) : Int), .string (mkS l)]) → (v.ownBlock = some gg ∨ gg = w.heap.size + 1) →
      TuM W (w1.setCell ⟨g, 2, none⟩ (.slice (some ⟨gg, 0, none⟩) (k.its.length + 1) cap)) gu fa fb L ys AE AL cE cL H (some (hkAdd k [⟨kk, l⟩])) (.pointer (some ⟨g, 0, none⟩)) ∧ (∀ b y, EdB w b y → EdB (w1.setCell ⟨g, 2, none⟩ (.slice (some ⟨gg, 0, none⟩) (k.its.length + 1) cap)) b y) ∧ (∀ b v2 n2 xs2, w.ownsRow b 9 1 v2 n2 xs2 → (w1.setCell ⟨g, 2, none⟩ (.slice (some ⟨gg, 0, none⟩) (k.its.length + 1) cap)).ownsRow b 9 1 v2 n2 xs2) := by
  obtain ⟨g2, v, p1, p2, p3⟩ := h.push
  obtain rfl : g = g2 := by injection p1 with p1; injection p1 with p1; injection p1
  have hbl : W.heap.size ≤ w.heap.size := by obtain ⟨hs, vh, hr⟩ := h; exact hr.bl.size
  refine ⟨v, (blk_cell p2.blk 2).trans rfl, blk_frozen p2.blk 2, p2.row, p2.ne, (Array.getElem?_eq_some_iff.1 p2.blk).1, hbl, fun w1 gg cap o kk l k1 k2 k3 => ?_⟩
  have hf : Fr w (w1.setCell ⟨g, 2, none⟩ (.slice (some ⟨gg, 0, none⟩) (k.its.length + 1) cap)) (fun b => b = g ∨ some b = v.ownBlock) := fr_push (Fr.refl w _) (Or.inl rfl) k1 2
  refine ⟨p3 _ _ _ (hk_push p2 k1 k2) hf (ow_push (Nat.le_refl _) (Or.inl rfl) k3), fun b y hb => hf.heap hb ?_, fun b v2 n2 xs2 h2 => own_fr h2 hf ?_⟩
  · rintro (rfl | hs2)
    · have := p2.blk
      unfold EdB at hb
      rw [hb] at this
      injection this with this
      injection this with _ ht
      exact absurd ht (by decide)
    · exact own_ne_blk p2.row hb (by decide) hs2.symm
  · rintro b2 hb (rfl | hs2)
    · exact own_ne_blk h2 p2.blk (by decide) hb
    · exact own_ne_own h2 p2.row (by decide) b2 hb hs2
theorem TuM.line {i : Nat} (h : TuM W w gu fa fb L ys AE AL cE cL H o p) (hi : i < L.length) : ∃ gl, AL = some ⟨gl, 0, none⟩ ∧ w.cell? ⟨gl, i, none⟩ = some (.string (mkS L[i])) := by
  obtain ⟨hs, vh, hr⟩ := h
  obtain ⟨gl, c2, hv, hc, _⟩ := own_get hr.ol i _ (rowS_get hi)
  injection hv with hv1
  exact ⟨gl, hv1, hc⟩
theorem dels_succ {i j : Nat} (hij : i ≤ j) (hj : j < L.length) : dels L i (j + 1) = dels L i j ++ [⟨0, L[j]⟩] := by
  unfold dels
  rw [List.take_succ_eq_append_getElem hj, List.drop_append_of_le_length (by rw [List.length_take]; omega)]
  simp
theorem dels_nil {i : Nat} : dels L i i = [] := by unfold dels; rw [seg_nil (Nat.le_refl _)]; rfl
theorem dels_length {i j : Nat} (hj : j ≤ L.length) : (dels L i j).length = j - i := by unfold dels; simp; omega
theorem inss_succ {j : Nat} (hj : j < L.length) : inss (L.take (j + 1)) = inss (L.take j) ++ [⟨1, L[j]⟩] := by
  unfold inss
  rw [List.take_succ_eq_append_getElem hj, List.map_append]
  rfl
theorem hkAdd_nil (k : Hk) : hkAdd k [] = k := by simp [hkAdd]
theorem TuM.ends (h : TuM W w gu fa fb L ys AE AL cE cL H none p) : ∃ (hs : List HX) (vh : Value), hs.map (fun x => x.2.2) = H ∧ w.heap[gu]? = some (.cells #[.string fa, .string fb, vh] 62 (0, 0)) ∧ w.heap[W.heap.size]? = some (.cells #[.string ⟨#[]⟩, .string ⟨#[]⟩, .slice none 0 0] 62 (0, 0)) ∧ w.ownsRow W.heap.size 86 1 vh hs.length (hs.map fun (x : HX) => .pointer (some ⟨x.1, 0, none⟩)) ∧ (∀ x ∈ hs, HkV w W.heap.size x.1 x.2.1 x.2.2) ∧ Below W.heap.size W w := by
  obtain ⟨hs, vh, h⟩ := h
  exact ⟨hs, vh, h.hh, h.um.blk, h.rb.1, h.um.row, h.um.done, h.bl⟩
end
end Go.Proofs.YtonajgipkpnpoaaGreatDoor.Un
namespace Go.Proofs.YtonajgipkpnpoaaGreatDoor.Un
open Go.RowKit Go.Proofs.YtonajgipkpnpoaaGreatDoorW.PrintWords Go.Proofs.YtonajgipkpnpoaaGreatDoorW.PrintLast Go.Proofs.YtonajgipkpnpoaaGreatDoorW.PrintMore Go.Uni
set_option linter.unusedVariables false
set_option linter.unusedSimpArgs false
def Seg (w : World) (size : Nat) (x : Value) (m : Nat) (news : List Value) : Prop :=
  (x = .slice none 0 0 ∧ m = 0 ∧ news = []) ∨ ∃ ad c, x = .slice (some ad) m c ∧ news.length = m * size ∧ ∀ j u, news[j]? = some u → w.cell? (ad.add j) = some u
section
variable {P : Program} {w : World}
theorem run_append_seg (t ty : TypeId) (base : Nat) (e : TypeId) (i : TypeInfo) (z : Value) (size bytes : Nat) (ht : P.underlying t = some (.slice e)) (hi : P.info? e = some i) (hz : i.zero = some z)
    (hsize : i.size = size) (hby : i.bytes = bytes) (hzs : z.cells.size = size) (hsz : 0 < size)
    (v : Value) (n : Nat) (xs : List Value) (hown : w.ownsRow base e size v n xs)
    (x : Value) (m : Nat) (news : List Value) (hx : Seg w size x m news) (h1 : ∀ u ∈ news, u.oneCell' = true)
    (h63 : n + m ≤ maxLen) (hbytes : (n + m) * bytes ≤ 140737488355328) (hbase : base ≤ w.heap.size) :
    ∃ A cap w', (Builtin.append_ #[t, t] ty #[v, x]).run P w = .ok (.slice A (n + m) cap) w' ∧
      w'.ownsRow base e size (.slice A (n + m) cap) (n + m) (xs ++ news) ∧ w.grownBy w' v.ownBlock ∧ ((Value.slice A (n + m) cap).ownBlock = v.ownBlock ∨ (Value.slice A (n + m) cap).ownBlock = some w.heap.size) := by
  rcases hx with ⟨rfl, rfl, rfl⟩ | ⟨ad, c, rfl, hl, hc⟩
  · have hr := run_append_owned_none (P := P) (w := w) base t ty e i size ht hi v n xs hown
    obtain ⟨A, cap, rfl⟩ := own_slice hown
    exact ⟨A, cap, w, hr, by rw [List.append_nil]; exact hown, ⟨rfl, rfl, rfl, Nat.le_refl _, fun _ _ _ => rfl⟩, Or.inl rfl⟩
  · obtain ⟨v', w', hr, h2, h3, _, h5⟩ := run_append_own_at (P := P) w base t ty e i z size bytes ht hi hz hsize hby hzs hsz v n xs hown ad m c news hl hc h1 h63 hbytes hbase
    obtain ⟨A, cap, rfl⟩ := own_slice h2
    exact ⟨A, cap, w', hr, h2, h3, h5⟩
theorem wp_append_seg {o : Oper} {a : Act} {K : Act → World → Prop} {Q : Exit → Act → World → Prop} (s x : Operand) (t : TypeId)
    (ho : o.op = .call { callee := .builtin .append, args := #[s, x], argTypes := #[t, t] })
    (base : Nat) (e : TypeId) (i : TypeInfo) (z : Value) (size bytes : Nat) (ht : P.underlying t = some (.slice e)) (hi : P.info? e = some i) (hz : i.zero = some z)
    (hsize : i.size = size) (hby : i.bytes = bytes) (hzs : z.cells.size = size) (hsz : 0 < size)
    (v : Value) (n : Nat) (xs : List Value) (hs : a.eval s = v) (hown : w.ownsRow base e size v n xs)
    (m : Nat) (news : List Value) (hx : Seg w size (a.eval x) m news) (h1 : ∀ u ∈ news, u.oneCell' = true)
    (h63 : n + m ≤ maxLen) (hbytes : (n + m) * bytes ≤ 140737488355328) (hbase : base ≤ w.heap.size)
    (h : ∀ A cap w', w'.ownsRow base e size (.slice A (n + m) cap) (n + m) (xs ++ news) → w.grownBy w' v.ownBlock → ((Value.slice A (n + m) cap).ownBlock = v.ownBlock ∨ (Value.slice A (n + m) cap).ownBlock = some w.heap.size) → K (a.put o.dst (.slice A (n + m) cap)) w') : o.wp P a w K Q := by
  obtain ⟨A, cap, w', hr, h2, h3, h4⟩ := run_append_seg (P := P) (w := w) t o.type base e i z size bytes ht hi hz hsize hby hzs hsz v n xs hown _ m news hx h1 h63 hbytes hbase
  unfold Oper.wp execOp
  simp only [ho, resolve, invoke, builtin, Sem.run_bind, Sem.run_pure, Result.andThen_ok, List.map_toArray, List.map_cons, List.map_nil, hs, hr]
  exact h A cap w' h2 h3 h4
theorem wpList_append_seg {ops : Array Oper} {rest : List Oper} {o : Oper} {a : Act} {Q : Exit → Act → World → Prop} (hgd : o.guard = none) (s x : Operand) (t : TypeId)
    (ho : o.op = .call { callee := .builtin .append, args := #[s, x], argTypes := #[t, t] })
    (base : Nat) (e : TypeId) (i : TypeInfo) (z : Value) (size bytes : Nat) (ht : P.underlying t = some (.slice e)) (hi : P.info? e = some i) (hz : i.zero = some z)
    (hsize : i.size = size) (hby : i.bytes = bytes) (hzs : z.cells.size = size) (hsz : 0 < size)
    (v : Value) (n : Nat) (xs : List Value) (hs : a.eval s = v) (hown : w.ownsRow base e size v n xs)
    (m : Nat) (news : List Value) (hx : Seg w size (a.eval x) m news) (h1 : ∀ u ∈ news, u.oneCell' = true)
    (h63 : n + m ≤ maxLen) (hbytes : (n + m) * bytes ≤ 140737488355328) (hbase : base ≤ w.heap.size)
    (h : ∀ A cap w', w'.ownsRow base e size (.slice A (n + m) cap) (n + m) (xs ++ news) → w.grownBy w' v.ownBlock → ((Value.slice A (n + m) cap).ownBlock = v.ownBlock ∨ (Value.slice A (n + m) cap).ownBlock = some w.heap.size) → wpList P ops Q rest (a.put o.dst (.slice A (n + m) cap)) w') : wpList P ops Q (o :: rest) a w :=
  wpList_plain hgd fun _ hK => wp_append_seg s x t ho base e i z size bytes ht hi hz hsize hby hzs hsz v n xs hs hown m news hx h1 h63 hbytes hbase fun A cap w' h2 h3 h4 => hK _ _ (h A cap w' h2 h3 h4)
theorem step_append_seg {ops : Array Oper} {o : Oper} {a : Act} {K : Act → World → Prop} {Q : Exit → Act → World → Prop} {E : Prop} (hgd : o.guard = none) (s x : Operand) (t : TypeId)
    (ho : o.op = .call { callee := .builtin .append, args := #[s, x], argTypes := #[t, t] })
    (base : Nat) (e : TypeId) (i : TypeInfo) (z : Value) (size bytes : Nat) (ht : P.underlying t = some (.slice e)) (hi : P.info? e = some i) (hz : i.zero = some z)
    (hsize : i.size = size) (hby : i.bytes = bytes) (hzs : z.cells.size = size) (hsz : 0 < size)
    (v : Value) (n : Nat) (xs : List Value) (hs : a.eval s = v) (hown : w.ownsRow base e size v n xs)
    (m : Nat) (news : List Value) (hx : Seg w size (a.eval x) m news) (h1 : ∀ u ∈ news, u.oneCell' = true)
    (h63 : n + m ≤ maxLen) (hbytes : (n + m) * bytes ≤ 140737488355328) (hbase : base ≤ w.heap.size)
    (h : ∀ A cap w', w'.ownsRow base e size (.slice A (n + m) cap) (n + m) (xs ++ news) → w.grownBy w' v.ownBlock → ((Value.slice A (n + m) cap).ownBlock = v.ownBlock ∨ (Value.slice A (n + m) cap).ownBlock = some w.heap.size) → K (a.put o.dst (.slice A (n + m) cap)) w') :
    if Region.wanted o (yielded ops a.tmps) = true then Oper.wp P o a w K Q else E := by
  have hw : Region.wanted o (yielded ops a.tmps) = true := by simp [Region.wanted, hgd]
  rw [if_pos hw]
  exact wp_append_seg s x t ho base e i z size bytes ht hi hz hsize hby hzs hsz v n xs hs hown m news hx h1 h63 hbytes hbase h
end
theorem addAt (g i : Nat) : (⟨g, 0, none⟩ : Addr).add i = ⟨g, i, none⟩ := by unfold Addr.add; split <;> simp_all
theorem seg_of {w : World} {B e : Nat} {A : Option Addr} {c : Nat} {L : List Bs} (h : w.ownsRow B e 1 (.slice A L.length c) L.length (rowS L)) {i j : Nat} (hij : i ≤ j) (hj : j ≤ L.length) : Seg w 1 (sliced A i j c 1) (j - i) (rowS ((L.take j).drop i)) := by
  rcases h.2 with ⟨hv, h0⟩ | ⟨g, cap, cur, hv, hb, hg, hn, hm, hs, ht⟩
  · injection hv with e1 e2 e3
    have hL : L.length = 0 := h0
    left
    have e0 : i = 0 := by omega
    have e4 : j = 0 := by omega
    subst e0 e4
    refine ⟨?_, rfl, by simp [rowS]⟩
    unfold sliced
    rw [e1, e3]; rfl
  · injection hv with e1 e2 e3
    subst e1 e3
    right
    unfold sliced
    have hlen : (rowS ((L.take j).drop i)).length = (j - i) * 1 := by
      unfold rowS
      rw [List.length_map, List.length_drop, List.length_take]; omega
    by_cases hc : c = i
    · rw [if_pos hc]
      have hij2 : j = i := by omega
      refine ⟨_, _, rfl, hlen, fun k u hu => ?_⟩
      rw [List.getElem?_eq_none (by omega)] at hu
      cases hu
    · rw [if_neg hc]
      refine ⟨⟨g, i, none⟩, c - i, by simp only [Option.map_some, Nat.mul_one, addAt], hlen, fun k u hu => ?_⟩
      have hk : k < j - i := by
        rcases Nat.lt_or_ge k (j - i) with h1 | h1
        · exact h1
        · rw [List.getElem?_eq_none (by omega)] at hu; cases hu
      have hkL : i + k < L.length := by omega
      obtain ⟨g2, c2, hv2, hcell, _⟩ := own_get h (i + k) _ (rowS_get hkL)
      injection hv2 with q1 q2 q3
      injection q1 with q1
      injection q1 with q1
      subst q1
      have : u = .string (mkS (L[i + k])) := by
        unfold rowS at hu
        rw [List.getElem?_map, List.getElem?_drop, List.getElem?_take, if_pos (by omega), List.getElem?_eq_getElem hkL] at hu
        simpa using hu.symm
      rw [this]
      have hadd : (⟨g, i, none⟩ : Addr).add k = ⟨g, i + k, none⟩ := by unfold Addr.add; split <;> simp_all
      rw [hadd]; exact hcell
end Go.Proofs.YtonajgipkpnpoaaGreatDoor.Un
