/- (*reader).hunk. expandEdit: an edit made whole lines. -/
import Derived.Test.YtonajgipkpnpoaaGreatDoorC27
import Derived.Test.YtonajgipkpnpoaaGreatDoorC20
import Derived.WalkSpells
import Derived.Deep.RegionWith
import Derived.Test.YtonajgipkpnpoaaGreatDoorC22
import Derived.Test.YtonajgipkpnpoaaGreatDoorC13
import Derived.Lib.LastIndexByte
import Derived.Lib.IndexLaws
import Derived.RegionTactic
import Derived.BigRegion
namespace Go.Proofs.YtonajgipkpnpoaaGreatDoor.Un
open Go.RowKit Go.Proofs.YtonajgipkpnpoaaGreatDoorW.PrintWords Go.Proofs.YtonajgipkpnpoaaGreatDoorW.PrintLast Go.Proofs.YtonajgipkpnpoaaGreatDoorW.PrintMore Go.Uni
open Go.Proofs.YtonajgipkpnpoaaGreatDoor.Rd (Pin IsS43)
set_option linter.unusedVariables false
set_option linter.unusedSimpArgs false
structure Ho (w0 W wr : World) (g : Nat) (U : ByteArray) (o y0 y : Pin) (p d : Nat) (acc : List Bs) : Prop where
  rs : RS w0 wr g U o p d acc y
  fr : Fr W wr (fun k => k = g ∨ some k = (pv y0).ownBlock)
  ow : (pv y).ownBlock = (pv y0).ownBlock ∨ ∃ k, (pv y).ownBlock = some k ∧ W.heap.size ≤ k
variable {w0 W wr : World} {g gh : Nat} {U : ByteArray} {o y0 y : Pin} {p d : Nat} {acc : List Bs}
theorem Ho.call (k : Ho w0 W wr g U o y0 y p d acc) {w' : World} {p' : Nat} (h1 : IsS43 w0 w' g U (p' : Int) false o (d : Int) y) (h2 : Below w0.heap.size w0 w') (h3 : KeepBut wr w' g none) : Ho w0 W w' g U o y0 y p' d acc := by
  obtain ⟨e1, e2⟩ := k.rs.call h1 h2 h3
  exact ⟨e1, Fr.then_ k.fr e2 (fun x hx => Or.inl (Or.inl hx)), k.ow⟩
theorem Ho.keep (k : Ho w0 W wr g U o y0 y p d acc) {w' : World} {S : Nat → Prop} (hf : Fr wr w' S) (hS : ∀ x, S x → W.heap.size ≤ x ∧ x ≠ g ∧ (pv y).ownBlock ≠ some x) (hw : w0.heap.size ≤ W.heap.size) : Ho w0 W w' g U o y0 y p d acc := by
  obtain ⟨hb, hg⟩ := k.rs.blk
  refine ⟨RS.mk' (hf.heap hb (fun x => (hS _ x).2.1 rfl)) hg (k.rs.bl.trans (hf.below k.rs.bl.size (fun x hx => Nat.le_trans hw (hS x hx).1))) k.rs.yn (own_fr k.rs.out hf (fun b hb' hs => (hS b hs).2.2 hb')), Fr.then_ k.fr hf (fun x hx => Or.inr (hS x hx).1), k.ow⟩
theorem Ho.done (k : Ho w0 W wr g U o y0 y p d acc) (d' : Nat) : Ho w0 W (wr.setCell ⟨g, 4, none⟩ (.int .i64 (d' : Int))) g U o y0 y p d' acc := by
  have hf := Fr.set_ wr ⟨g, 4, none⟩ (.int .i64 (d' : Int))
  obtain ⟨hb, hg⟩ := k.rs.blk
  refine ⟨RS.mk' (by simpa using blk_set hb 4 (.int .i64 (d' : Int))) hg (k.rs.bl.trans (hf.below k.rs.bl.size (fun x hx => by rw [hx]; exact hg))) k.rs.yn (own_fr k.rs.out hf ?_), Fr.then_ k.fr hf (fun x hx => Or.inl (Or.inl hx)), k.ow⟩
  rintro x hx rfl
  exact own_ne_blk k.rs.out hb (by decide) hx
theorem Ho.push (k : Ho w0 W wr g U o y0 y p d acc) (hw : w0.heap.size ≤ W.heap.size) {w1 : World} {A : Option Addr} {cap n : Nat} {ls : List Bs} (hn : n = acc.length + ls.length) (hg1 : wr.grownBy w1 (pv y).ownBlock) (hown : w1.ownsRow w0.heap.size 9 1 (.slice A n cap) n (rowS acc ++ rowS ls)) (hat : (Value.slice A n cap).ownBlock = (pv y).ownBlock ∨ (Value.slice A n cap).ownBlock = some wr.heap.size) :
    Ho w0 W (w1.setCell ⟨g, 5, none⟩ (.slice A n cap)) g U o y0 ⟨A, n, cap⟩ p d (acc ++ ls) := by
  subst hn
  obtain ⟨hb, hg⟩ := k.rs.blk
  have hneg : (pv y).ownBlock ≠ some g := own_ne_blk k.rs.out hb (by decide)
  have hb1 : w1.heap[g]? = _ := (hg1.block g (Array.getElem?_eq_some_iff.1 hb).1 (Ne.symm hneg)).trans hb
  have hf1 : Fr wr w1 (fun x => some x = (pv y).ownBlock) := Fr.of_grown hg1
  have hf := Fr.then_ (S := fun x => some x = (pv y).ownBlock ∨ x = g) (hf1.mono (fun x hx => Or.inl hx)) (Fr.set_ w1 ⟨g, 5, none⟩ (.slice A (acc.length + ls.length) cap)) (fun x hx => Or.inl (Or.inr hx))
  have hge : ∀ x, (pv y).ownBlock = some x → w0.heap.size ≤ x := by
    intro x hx
    rcases k.rs.out.2 with ⟨h0, _⟩ | ⟨g1, c1, cur, h1, h2, _⟩
    · unfold pv at hx; rw [h0] at hx; cases hx
    · unfold pv at hx; rw [h1] at hx
      have : g1 = x := by simpa [Value.ownBlock] using hx
      omega
  have hne5 : (Value.slice A (acc.length + ls.length) cap).ownBlock ≠ some g := own_ne_blk hown hb1 (by decide)
  refine ⟨RS.mk' (by simpa using blk_set hb1 5 (.slice A (acc.length + ls.length) cap)) hg ?_ (by simp) ?_, Fr.then_ k.fr hf ?_, ?_⟩
  · refine k.rs.bl.trans (hf.below k.rs.bl.size ?_)
    rintro x (hx | rfl)
    · exact hge x hx.symm
    · exact hg
  · rw [List.length_append, rowS_append]
    exact own_setCell hown (p := ⟨g, 5, none⟩) (fun he => hne5 he.symm) _
  · rintro x (hx | rfl)
    · rcases k.ow with h1 | ⟨q, h1, h2⟩
      · rw [h1] at hx; exact Or.inl (Or.inr hx)
      · rw [h1] at hx; injection hx with hx; exact Or.inr (by omega)
    · exact Or.inl (Or.inl rfl)
  · rcases hat with hat | hat
    · rcases k.ow with h1 | ⟨q, h1, h2⟩
      · exact Or.inl (hat.trans h1)
      · exact Or.inr ⟨q, hat.trans h1, h2⟩
    · exact Or.inr ⟨_, hat, k.fr.size⟩
theorem Ho.old (k : Ho w0 W wr g U o y0 y p d acc) {L : List Bs} (hO : w0.ownsRow 0 9 1 (pv o) L.length (rowS L)) : wr.ownsRow 0 9 1 (pv o) L.length (rowS L) := pw_own_below hO k.rs.bl
theorem Ho.into (k : Ho w0 W wr g U o y0 y p d acc) {h : HkR} {a b : Nat} (hb : wr.heap[gh]? = some (.cells (hkB h a b) 46 (0, 0))) (ge : w0.heap.size ≤ gh) : Bo w0 wr wr g gh U o y y p d acc h a b :=
  ⟨k.rs, hb, ge, Fr.refl _ _, Or.inl rfl⟩
theorem Ho.out_ (k : Ho w0 W wr g U o y0 y p d acc) {h : HkR} {a b : Nat} {w' : World} {y' : Pin} {p' d' : Nat} {acc' : List Bs} (k2 : Bo w0 wr w' g gh U o y y' p' d' acc' h a b) (hg : W.heap.size ≤ gh) : Ho w0 W w' g U o y0 y' p' d' acc' := by
  refine ⟨k2.rs, Fr.then_ k.fr k2.fr ?_, ?_⟩
  · rintro x (hx | rfl | hx)
    · exact Or.inl (Or.inl hx)
    · exact Or.inr hg
    · rcases k.ow with h1 | ⟨q, h1, h2⟩
      · rw [h1] at hx; exact Or.inl (Or.inr hx)
      · rw [h1] at hx; injection hx with hx; exact Or.inr (by omega)
  · rcases k2.ow with e1 | ⟨q, e1, e2⟩
    · rcases k.ow with h1 | ⟨q, h1, h2⟩
      · exact Or.inl (e1.trans h1)
      · exact Or.inr ⟨q, e1.trans h1, h2⟩
    · exact Or.inr ⟨q, e1, Nat.le_trans k.fr.size e2⟩
def HunkPost (w0 W : World) (g : Nat) (U : ByteArray) (o y0 : Pin) (p D : Nat) (ACC : List Bs) (h : Hk) (e : Ending) (w' : World) : Prop :=
  ∃ (f t : Int) (y : Pin), e = .returned (.agg (hkB ⟨f, t, h.its⟩ (ht h.its (0, 0, false)).1 (ht h.its (0, 0, false)).2.1)) ∧ f = (if fromC h.its = 0 then 0 else (h.f : Int)) ∧ Ho w0 W w' g U o y0 y p D ACC
theorem results_cell {P : Program} {fn : Func} {p : Tmp} {ty : TypeId} (h : fn.results = #[.cell p ty]) (tmps : Array Value) (w : World) (g : Nat) (t : TypeId) (cs : Array Value) (fr : Nat × Nat) (d : TypeDesc)
    (hp : tmps.getD p undef = .pointer (some ⟨g, 0, none⟩)) (hg : w.heap[g]? = some (.cells cs t fr))
    (hu : P.underlying ty = some d) (hd : (match d with | .struct _ | .array _ _ => true | _ => false) = true) (hi : (P.info? ty).map (·.size) = some cs.size) :
    (results fn tmps).run P w = .ok (.agg cs) w := by
  have hp' : tmps[p]?.getD undef = .pointer (some ⟨g, 0, none⟩) := by simpa using hp
  simp [results, h, hp', asAddr, run_loadVar_row w g t ty cs fr d hg hu hd hi]
set_option maxRecDepth 100000 in
set_option maxHeartbeats 8000000 in
theorem hunk_calls (w0 W : World) (g : Nat) (U : ByteArray) (o y0 : Pin) (p d D : Nat) (acc ACC : List Bs) (h : Hk) (L : List Bs) (rest : Bs)
    (hw : w0.heap.size ≤ W.heap.size) (hU : U.size ≤ 1000000000000000) (hO : w0.ownsRow 0 9 1 (pv o) L.length (rowS L)) (hL : L.length ≤ 1000000000)
    (hR : RS w0 W g U o p d acc y0) (hf1 : 1 ≤ h.f) (hft : h.f < 10 ^ 18) (htt : h.t < 10 ^ 18) (h0 : fromC h.its = 0 → h.f = 1) (h1 : toC h.its = 0 → h.t = 1) (hln : ∀ i ∈ h.its, Line i.l ∧ i.k ≤ 2)
    (hd1 : d ≤ h.f - 1) (hd2 : h.f - 1 ≤ L.length) (hrun : run L h.its (h.f - 1) (acc ++ (L.take (h.f - 1)).drop d) = some (D, ACC)) (hdr : U.data.toList.drop p = rHk h ++ rest) (hrest : ∀ c t, rest = c :: t → c ≠ 92) (hacc : ACC.length ≤ 1000000000) (hits : h.its.length ≤ 1000000000) :
    Calls Tryz.prog 20 #[.pointer (some ⟨g, 0, none⟩)] W fun e w' => HunkPost w0 W g U o y0 (p + (rHk h).length) D ACC h e w' := by
  obtain ⟨yA, yn, yc⟩ := y0
  obtain rfl : yn = acc.length := hR.yn
  have hal : (acc ++ (L.take (h.f - 1)).drop d).length ≤ ACC.length := run_len hrun
  rw [List.length_append, List.length_drop, List.length_take] at hal
  have hfc : fromC h.its ≤ h.its.length := List.length_filter_le _ _
  have htc : toC h.its ≤ h.its.length := List.length_filter_le _ _
  have hdr1 : U.data.toList.drop p = rHead h ++ (rIts h.its ++ rest) := by rw [hdr]; unfold rHk; rw [List.append_assoc]
  obtain ⟨f', t', hev, hf'⟩ := Rd.header_ev U p o ⟨yA, acc.length, yc⟩ (d : Int) h _ hU hdr1 hft htt (by omega) (by omega) h0 h1 40 (Nat.le_refl _)
  have hdr2 : U.data.toList.drop (p + (rHead h).length) = rIts h.its ++ rest := Rd.drop_more hdr1
  have hplace : Rd.spec_place.f f' (fromC h.its : Int) = some ((h.f - 1 : Nat) : Int) := by
    unfold Rd.spec_place.f
    by_cases hz : fromC h.its = 0
    · rw [if_pos hz] at hf'
      rw [if_pos (by omega), hf', h0 hz]; rfl
    · rw [if_neg hz] at hf'
      rw [if_neg (by omega), hf', Rd.w64 (by omega) (by omega)]
      congr 1; omega
  have hH : Ho w0 W W g U o ⟨yA, acc.length, yc⟩ ⟨yA, acc.length, yc⟩ p d acc := ⟨hR, Fr.refl _ _, Or.inl rfl⟩
  have HH := Aside0.mk hH
  have HO := Aside0.mk hO
  have HEV := Aside0.mk hev
  have HPL := Aside0.mk hplace
  obtain ⟨F, hF⟩ : ∃ F, F = h.f - 1 := ⟨_, rfl⟩
  rw [← hF] at HPL hd1 hd2 hrun hal
  have HF := Lib.hid hF
  have HF' := Lib.hid hf'
  clear hR hH hO hev hplace hdr hdr1 hF hf'
  have hgW : g < W.heap.size := (Array.getElem?_eq_some_iff.1 HH.out.rs.blk.1).1
  go_enter Tryz.func20, Tryz.ntmps20
  go_upto_region 2 with (go_at_call 29; (with_reducible refine (Rd.spec_reader_header.calls 40 g _ _ _ _ _ _ _ _ _ _ _ _ _ _ _ _ w0 _ ?side1 ?side2 HEV.out).mono ?_); (case side1 => exact (HH.out.keep (Fr.alloc_ _ _ (fun _ => False)) (fun _ x => x.elim) hw).rs.is); (case side2 => exact (HH.out.keep (Fr.alloc_ _ _ (fun _ => False)) (fun _ x => x.elim) hw).rs.bl); rintro e w5 ⟨rfl, hi5, hb5, hk5⟩; have HH5 := Aside0.mk ((HH.out.keep (Fr.alloc_ _ _ (fun _ => False)) (fun _ x => x.elim) hw).call hi5 hb5 hk5); have HK5 := Aside0.mk hk5; clear hi5 hb5 hk5)
  have hk5 := HK5.out
  have hz0 : w5.heap[W.heap.size]? = some (.cells #[.int .i64 0, .int .i64 0, .int .i64 0, .int .i64 0, .int .i64 0, .int .i64 0] 46 (0, 0)) := by
    rw [hk5.2 W.heap.size (by simp) (by omega) (by simp)]
    exact new_obj W _
  have hs5 : W.heap.size < w5.heap.size := by have := hk5.1; simp at this; omega
  have hh5 := new_obj w5 (.cells (hkB ⟨f', t', h.its⟩ 0 0) 46)
  have hz5 := (Below.heap_alloc w5 (.cells (hkB ⟨f', t', h.its⟩ 0 0) 46) W.heap.size hs5).trans hz0
  have HH6 := Aside0.mk (HH5.out.keep (Fr.alloc_ w5 (.cells (hkB ⟨f', t', h.its⟩ 0 0) 46) (fun _ => False)) (fun _ x => x.elim) hw)
  obtain ⟨w6, hw6⟩ : ∃ w6, w6 = w5.alloc (.cells (hkB ⟨f', t', h.its⟩ 0 0) 46) := ⟨_, rfl⟩
  have hw6' : w6 = w5.alloc (.cells #[.int .i64 f', .int .i64 (fromC h.its : Int), .int .i64 t', .int .i64 (toC h.its : Int), .int .i64 0, .int .i64 0] 46) := hw6
  rw [← hw6']
  rw [← hw6] at hh5 hz5 HH6
  obtain ⟨gh, hgh⟩ : ∃ gh, gh = w5.heap.size := ⟨_, rfl⟩
  rw [← hgh] at hh5 ⊢
  have hgh1 : W.heap.size < gh := by omega
  clear hk5 hz0 hw6 hw6' HK5 HH HH5 hgh
  have c0 : w6.cell? ⟨gh, 0, none⟩ = some (.int .i64 f') := blk_cell hh5 0
  have c1 : w6.cell? ⟨gh, 1, none⟩ = some (.int .i64 (fromC h.its : Int)) := blk_cell hh5 1
  go_upto_region 3 with (go_at_call 22; (with_reducible refine (Rd.spec_place.calls _ _ _ _ HPL.out).mono ?_); rintro e w7 ⟨rfl, hd7⟩; have HD7 := Aside0.mk hd7.below; clear hd7)
  have hf7 := Fr.of_below HD7.out (fun _ => False)
  have HH7 := Aside0.mk (HH6.out.keep hf7 (fun _ x => x.elim) hw)
  have hh7 := hf7.heap hh5 (fun x => x)
  have hz7 := hf7.heap hz5 (fun x => x)
  have cg := HH7.out.rs.blk.1
  have c2 : w7.cell? ⟨g, 2, none⟩ = some (.bool false) := blk_cell cg 2
  have c3 : w7.cell? ⟨g, 3, none⟩ = some (.slice o.A o.n o.c) := blk_cell cg 3
  have c4 : w7.cell? ⟨g, 4, none⟩ = some (.int .i64 (d : Int)) := blk_cell cg 4
  have c5 : w7.cell? ⟨g, 5, none⟩ = some (.slice yA acc.length yc) := blk_cell cg 5
  have f4 : w7.frozen? ⟨g, 4, none⟩ = false := blk_frozen cg 4
  have f5 : w7.frozen? ⟨g, 5, none⟩ = false := blk_frozen cg 5
  obtain ⟨oA, oc, hov⟩ := own_slice (HH7.out.old HO.out)
  unfold pv at hov
  injection hov with ho1 ho2 ho3
  rw [ho1, ho2, ho3] at c3
  clear c0 c1 hf7 HD7 HH6 hh5 hz5 cg
  go_upto_region 6 with fail
  go_cut [4] (fun v4 wx => v4 = .int .i64 (F : Int) ∧ ∃ y1, Aside0 (Ho w0 W wx g U o ⟨yA, acc.length, yc⟩ y1 (p + (rHead h).length) d (acc ++ (L.take F).drop d)) ∧ Aside0 (wx.heap[gh]? = some (.cells (hkB ⟨f', t', h.its⟩ 0 0) 46 (0, 0))) ∧ Aside0 (wx.heap[W.heap.size]? = some (.cells #[.int .i64 0, .int .i64 0, .int .i64 0, .int .i64 0, .int .i64 0, .int .i64 0] 46 (0, 0))))
  case first =>
    -- <c
    have hold := HH7.out.old HO.out
    unfold pv at hold
    rw [ho1, ho2, ho3] at hold
    have hseg := seg_of hold hd1 hd2
    unfold sliced at hseg
    have hsegD : Seg w7.drew 1 _ (F - d) (rowS ((L.take F).drop d)) := hseg
    have hseg2 := hsegD
    simp only [Nat.mul_one] at hseg2
    have HSEG := Aside0.mk hsegD
    have HSEG2 := Aside0.mk hseg2
    clear hseg2
    obtain ⟨iS, hiS, hzS0, hzS1, hzS2⟩ := info_parts info_string
    have hneg : (Value.slice yA acc.length yc).ownBlock ≠ some g := own_ne_blk HH7.out.rs.out HH7.out.rs.blk.1 (by decide)
    have hneh : (Value.slice yA acc.length yc).ownBlock ≠ some gh := own_ne_blk HH7.out.rs.out hh7 (by decide)
    have hnez : (Value.slice yA acc.length yc).ownBlock ≠ some W.heap.size := own_ne_blk HH7.out.rs.out hz7 (by decide)
    have hgs : g < w7.heap.size := (Array.getElem?_eq_some_iff.1 HH7.out.rs.blk.1).1
    have hws : w0.heap.size ≤ w7.heap.size := HH7.out.rs.bl.size
    have i1 : (0 : Int) ≤ (d : Int) := by omega
    have i2 : (d : Int) ≤ (F : Int) := by omega
    have hoc : L.length ≤ oc := by
      rcases hold.2 with ⟨hv, h0⟩ | ⟨_, _, _, hv, _, _, hn, _⟩
      · injection hv with e1 e2 e3; omega
      · injection hv with e1 e2 e3; omega
    have i3 : (F : Int) ≤ (oc : Int) := by omega
    have HH7' := HH7
    clear hseg hsegD hold
    go_region_law
      ((refine step_append_seg (by rfl) _ _ _ (by rfl) w0.heap.size 9 iS _ 1 16 Tryz.underlying29 hiS hzS0 hzS1 hzS2 rfl (by omega) (.slice yA acc.length yc) _ _ (by rfl) (HH7'.out.rs.out.drew) (F - d) (rowS ((L.take F).drop d)) (by first | exact HSEG.out | exact HSEG2.out) (by intro u hu; unfold rowS at hu; obtain ⟨_, _, rfl⟩ := List.mem_map.1 hu; rfl) (by unfold maxLen; omega) (by omega) (by simp; omega) ?_; intro A8 cap8 w8 hown8 hgrow8 hat8; have c8 : w8.cell? ⟨g, 5, none⟩ = some (.slice yA acc.length yc) := (World.grownBy.cell_far hgrow8 _ hgs (Ne.symm hneg)).trans c5; have f8 : w8.frozen? ⟨g, 5, none⟩ = false := (World.grownBy.frozen_far hgrow8 _ hgs (Ne.symm hneg)).trans f5))
    all_goals
      have P8 := HH7'.out.push hw (ls := (L.take F).drop d) (by rw [List.length_drop, List.length_take]; omega) ⟨hgrow8.os, hgrow8.tape, hgrow8.output, hgrow8.size, hgrow8.block⟩ hown8 hat8
      have hh8 := (Below.heap_setCell w8 ⟨g, 5, none⟩ (.slice A8 (acc.length + (F - d)) cap8) gh (by show gh ≠ g; omega)).trans ((hgrow8.block gh (Array.getElem?_eq_some_iff.1 hh7).1 (Ne.symm hneh)).trans hh7)
      have hz8 := (Below.heap_setCell w8 ⟨g, 5, none⟩ (.slice A8 (acc.length + (F - d)) cap8) W.heap.size (by show W.heap.size ≠ g; omega)).trans ((hgrow8.block W.heap.size (Array.getElem?_eq_some_iff.1 hz7).1 (Ne.symm hnez)).trans hz7)
      have HP8 := Aside0.mk P8
      have HH8 := Aside0.mk hh8
      have HZ8 := Aside0.mk hz8
      clear P8 hh8 hz8 hown8 hgrow8 hat8
      go_wp2_with fail
      repeat (go_meet; exact ⟨rfl, _, ⟨HP8.out⟩, ⟨HH8.out⟩, ⟨HZ8.out⟩⟩)
    -- c>
  case rest =>
    obtain ⟨rfl, y1, HQ, HHB, HZ⟩ := hcut
    clear c2 c3 c4 c5 f4 f5
    have cg := HQ.out.rs.blk.1
    have f4 : wc.frozen? ⟨g, 4, none⟩ = false := blk_frozen cg 4
    have c4 : wc.cell? ⟨g, 4, none⟩ = some (.int .i64 (d : Int)) := blk_cell cg 4
    have hwW : W.heap.size ≤ wc.heap.size := HQ.out.fr.size
    have HQ9 := Aside0.mk (HQ.out.done F)
    have hgg : gh ≠ g := by omega
    have hzg : W.heap.size ≠ g := by omega
    have hh9 := (Below.heap_setCell wc ⟨g, 4, none⟩ (.int .i64 (F : Int)) gh hgg).trans HHB.out
    have hz9 := (Below.heap_setCell wc ⟨g, 4, none⟩ (.int .i64 (F : Int)) W.heap.size hzg).trans HZ.out
    have hrd := hdr2
    have hbo : Bo w0 (wc.setCell ⟨g, 4, none⟩ (.int .i64 (F : Int))) (wc.setCell ⟨g, 4, none⟩ (.int .i64 (F : Int))) g gh U o y1 y1 (p + (rHead h).length) F (acc ++ (L.take F).drop d) ⟨f', t', h.its⟩ 0 0 := HQ9.out.into hh9 (by omega)
    have hbody := body_calls w0 (wc.setCell ⟨g, 4, none⟩ (.int .i64 (F : Int))) g gh U o y1 (p + (rHead h).length) D F (acc ++ (L.take F).drop d) ACC ⟨f', t', h.its⟩ L rest (ht h.its (0, 0, false)) (by simp; omega) hU HO.out ho2 (by omega) hbo hln hrun rfl hdr2 hrest (by omega) (show h.its.length ≤ 1000000000000 by omega)
    have HBD := Aside0.mk hbody
    have HZ9 := Aside0.mk hz9
    clear cg hh9 hz9 hrd hbo hbody hdr2 hln hrun hrest
    go_wp2_with (go_at_call 30; (with_reducible refine HBD.out.mono ?_); rintro e w9 ⟨y2, rfl, hb9⟩; have HB9 := Aside0.mk hb9; have hzz := hb9.fr.heap HZ9.out (by rintro (h | h | h) <;> first | omega | exact own_ne_blk (HQ9.out.rs.out) HZ9.out (by decide) h.symm); have q0 := (blk_cell hb9.hb 0).trans (show (hkB ⟨f', t', h.its⟩ _ _)[0]? = some (.int .i64 f') from rfl); have q1 := (blk_cell hb9.hb 1).trans (show (hkB ⟨f', t', h.its⟩ _ _)[1]? = some (.int .i64 (fromC h.its : Int)) from rfl); have q2 := (blk_cell hb9.hb 2).trans (show (hkB ⟨f', t', h.its⟩ _ _)[2]? = some (.int .i64 t') from rfl); have q3 := (blk_cell hb9.hb 3).trans (show (hkB ⟨f', t', h.its⟩ _ _)[3]? = some (.int .i64 (toC h.its : Int)) from rfl); have q4 := (blk_cell hb9.hb 4).trans (show (hkB ⟨f', t', h.its⟩ _ _)[4]? = some (.int .i64 ((ht h.its (0, 0, false)).1 : Int)) from rfl); have q5 := (blk_cell hb9.hb 5).trans (show (hkB ⟨f', t', h.its⟩ _ _)[5]? = some (.int .i64 ((ht h.its (0, 0, false)).2.1 : Int)) from rfl); have z0 := (blk_cell hzz 0).trans (show _ = some (.int .i64 0) from rfl); have z1 := (blk_cell hzz 1).trans (show _ = some (.int .i64 0) from rfl); have z2 := (blk_cell hzz 2).trans (show _ = some (.int .i64 0) from rfl); have z3 := (blk_cell hzz 3).trans (show _ = some (.int .i64 0) from rfl); have z4 := (blk_cell hzz 4).trans (show _ = some (.int .i64 0) from rfl); have z5 := (blk_cell hzz 5).trans (show _ = some (.int .i64 0) from rfl); have y_0 := blk_frozen hzz 0; have y_1 := blk_frozen hzz 1; have y_2 := blk_frozen hzz 2; have y_3 := blk_frozen hzz 3; have y_4 := blk_frozen hzz 4; have y_5 := blk_frozen hzz 5; have HZZ := Aside0.mk hzz; clear hb9 hzz)
    have a6 := blk_set (blk_set (blk_set (blk_set (blk_set (blk_set HZZ.out 0 (.int .i64 f')) 1 (.int .i64 (fromC h.its : Int))) 2 (.int .i64 t')) 3 (.int .i64 (toC h.its : Int))) 4 (.int .i64 ((ht h.its (0, 0, false)).1 : Int))) 5 (.int .i64 ((ht h.its (0, 0, false)).2.1 : Int))
    refine bodyPost_ret (results_cell rfl _ _ W.heap.size 46 (hkB ⟨f', t', h.its⟩ (ht h.its (0, 0, false)).1 (ht h.its (0, 0, false)).2.1) (0, 0) _ rfl a6 Tryz.underlying46 rfl (by kernel_rfl)) rfl ?_
    have hf : ∀ (w : World) (v0 v1 v2 v3 v4 v5 : Value), Fr w ((((((w.setCell ⟨W.heap.size, 0, none⟩ v0).setCell ⟨W.heap.size, 1, none⟩ v1).setCell ⟨W.heap.size, 2, none⟩ v2).setCell ⟨W.heap.size, 3, none⟩ v3).setCell ⟨W.heap.size, 4, none⟩ v4).setCell ⟨W.heap.size, 5, none⟩ v5) (fun k => k = W.heap.size) := fun w v0 v1 v2 v3 v4 v5 =>
      Fr.then_ (Fr.then_ (Fr.then_ (Fr.then_ (Fr.then_ (Fr.set_ w ⟨W.heap.size, 0, none⟩ _) (Fr.set_ _ ⟨W.heap.size, 1, none⟩ _) (fun k hk => Or.inl hk)) (Fr.set_ _ ⟨W.heap.size, 2, none⟩ _) (fun k hk => Or.inl hk)) (Fr.set_ _ ⟨W.heap.size, 3, none⟩ _) (fun k hk => Or.inl hk)) (Fr.set_ _ ⟨W.heap.size, 4, none⟩ _) (fun k hk => Or.inl hk)) (Fr.set_ _ ⟨W.heap.size, 5, none⟩ _) (fun k hk => Or.inl hk)
    have hlenq : p + (rHead h).length + (rIts h.its).length = p + (rHk h).length := by unfold rHk; rw [List.length_append]; omega
    have HE := HQ9.out.out_ HB9.out (by omega)
    rw [hlenq] at HE
    refine ⟨f', t', y2, rfl, HF'.out, HE.keep (hf _ _ _ _ _ _ _) ?_ hw⟩
    rintro x rfl
    exact ⟨Nat.le_refl _, by omega, own_ne_blk HE.rs.out HZZ.out (by decide)⟩
end Go.Proofs.YtonajgipkpnpoaaGreatDoor.Un
namespace Go.Proofs.YtonajgipkpnpoaaGreatDoor.Un
open Go.RowKit Go.Proofs.YtonajgipkpnpoaaGreatDoorW.PrintWords Go.Proofs.YtonajgipkpnpoaaGreatDoorW.PrintLast Go.Proofs.YtonajgipkpnpoaaGreatDoorW.PrintMore Go.Uni
set_option linter.unusedVariables false
set_option linter.unusedSimpArgs false
theorem bang_get {s : ByteArray} {j : Nat} (hj : j < s.data.toList.length) : s.data[j]! = s.data.toList[j] := by
  rw [getElem!_pos s.data j (by simpa using hj)]; simp
theorem last_line (c : ByteArray) {s : Nat} (hs : s ≤ c.size) : ∃ q, q ≤ s ∧ Lib.lastIndexByte (c.extract 0 s) 10 = (q : Int) - 1 ∧ LS c.data.toList q ∧ NoNl (btw c.data.toList q s) := by
  have hl : (c.extract 0 s).data.toList = c.data.toList.take s := by rw [ext_toList, List.drop_zero]
  have hcl := data_length c
  have hsz : (c.extract 0 s).size = s := by rw [← data_length, hl, List.length_take]; omega
  have key : ∀ j, (h : j < s) → ((((c.extract 0 s).data[j]!).toNat : Nat) : Int) = ((c.data.toList[j]'(by omega)).toNat : Int) := fun j h => by
    rw [bang_get (by rw [hl, List.length_take]; omega)]
    congr 2
    simp only [hl, List.getElem_take]
  rcases Lib.lastIndexByte_spec (c.extract 0 s) 10 with ⟨h1, h2⟩ | ⟨i, h1, h2, h3, h4⟩
  · refine ⟨0, Nat.zero_le _, by rw [h1]; rfl, by unfold LS; rw [List.take_zero]; exact whole_nil, ?_⟩
    intro d hd he
    subst he
    unfold btw at hd
    rw [List.drop_zero] at hd
    obtain ⟨j, hj, hj2⟩ := List.mem_take_iff_getElem.1 hd
    have hjs : j < s := by omega
    have := h2 j (by omega)
    rw [key j hjs, hj2] at this
    exact this rfl
  · have hi : i < s := by omega
    rw [key i hi] at h3
    have h6 : (c.data.toList[i]'(by omega)).toNat = 10 := by omega
    have h5 : c.data.toList[i]'(by omega) = 10 := UInt8.toNat_inj.1 (h6.trans rfl)
    refine ⟨i + 1, by omega, by rw [h2]; omega, ?_, ?_⟩
    · unfold LS
      right
      unfold EndNl
      rw [List.take_succ_eq_append_getElem (by omega), List.getLast?_append, h5]; rfl
    · intro d hd he
      subst he
      unfold btw at hd
      obtain ⟨j, hj, hj2⟩ := List.mem_iff_getElem.1 hd
      rw [List.getElem_drop, List.getElem_take] at hj2
      rw [List.length_drop, List.length_take] at hj
      have := h4 (i + 1 + j) (by omega) (by omega)
      rw [key (i + 1 + j) (by omega), hj2] at this
      exact this rfl
theorem next_line (c : ByteArray) {e : Nat} (he : e ≤ c.size) : (Lib.indexByte (c.extract e c.size).data.toList 10 < 0 ∧ NextEnd c.data.toList e c.size) ∨ ∃ k : Nat, Lib.indexByte (c.extract e c.size).data.toList 10 = (k : Int) ∧ e + k + 1 ≤ c.size ∧ NextEnd c.data.toList e (e + k + 1) := by
  have hcl := data_length c
  have hl : (c.extract e c.size).data.toList = c.data.toList.drop e := by rw [ext_toList, List.take_of_length_le (by omega)]
  rw [hl]
  have hge := Lib.indexByte_ge (c.data.toList.drop e) 10
  by_cases hn : Lib.indexByte (c.data.toList.drop e) 10 = -1
  · left
    refine ⟨by omega, he, by omega, Or.inl ⟨hcl.symm, ?_⟩⟩
    intro d hd hd2
    subst hd2
    unfold btw at hd
    rw [List.take_of_length_le (by omega)] at hd
    obtain ⟨j, hj, hj2⟩ := List.mem_iff_getElem.1 hd
    exact Lib.indexByte_none hn j (by rw [List.getElem?_eq_getElem hj, hj2])
  · right
    obtain ⟨k, hk⟩ : ∃ k : Nat, Lib.indexByte (c.data.toList.drop e) 10 = k := ⟨(Lib.indexByte (c.data.toList.drop e) 10).toNat, by omega⟩
    obtain ⟨h1, h2⟩ := Lib.indexByte_some hk
    have hlt := (List.getElem?_eq_some_iff.1 h1).1
    rw [List.length_drop] at hlt
    refine ⟨k, hk, by omega, by omega, by omega, Or.inr ⟨(c.data.toList.drop e).take k, ?_, ?_⟩⟩
    · unfold btw
      rw [List.drop_take, show e + k + 1 - e = k + 1 by omega, List.take_succ_eq_append_getElem (by rw [List.length_drop]; omega)]
      rw [(List.getElem?_eq_some_iff.1 h1).2]
    · intro d hd hd2
      subst hd2
      obtain ⟨j, hj, hj2⟩ := List.mem_take_iff_getElem.1 hd
      exact h2 j (by omega) (by rw [List.getElem?_eq_getElem (by omega), hj2])
def ExpPost (W : World) (c : Bs) (x : BE) (e : Ending) (w' : World) : Prop :=
  ∃ y : BE, e = .returned (.agg #[.int .i64 (y.s : Int), .int .i64 (y.e : Int), .string (mkS y.new)]) ∧ Expand c x y ∧ Below W.heap.size W w'
instance decLS (c : Bs) (p : Nat) : Decidable (LS c p) := by unfold LS; infer_instance
theorem prev_nl (c : ByteArray) {e : Nat} (h0 : 0 < e) (he : e ≤ c.size) (hh : e - 1 < c.size) : (((c[e - 1]'hh).toNat : Int) != 10) = decide (¬ LS c.data.toList e) := by
  have hl := data_length c
  have e1 : (c.data.toList.take e)[e - 1]? = some (c[e - 1]'hh) := by
    rw [List.getElem?_take, if_pos (by omega), List.getElem?_eq_getElem (by omega)]; rfl
  have e0 : (c.data.toList.take e).length = e := by rw [List.length_take]; omega
  have e2 : LS c.data.toList e ↔ c[e - 1]'hh = 10 := by
    unfold LS
    constructor
    · rintro (h | h)
      · rw [h] at e0; simp at e0; omega
      · rw [endNl_get, e0, e1] at h; exact Option.some.inj h
    · intro h
      exact Or.inr (endNl_get.2 (by rw [e0, e1, h]))
  rw [Bool.eq_iff_iff]
  simp only [bne_iff_ne, ne_eq, decide_eq_true_eq, e2]
  constructor
  · intro h1 h2; exact h1 (by rw [h2]; rfl)
  · intro h1 h2; exact h1 (UInt8.toNat_inj.1 (by have : (c[e - 1]'hh).toNat = 10 := by omega
                                                 rw [this]; rfl))
theorem ls_zero (c : Bs) : LS c 0 := by unfold LS; rw [List.take_zero]; exact whole_nil
theorem two_heap (W : World) (a b : Obj) : ((W.alloc a).alloc b).heap[W.heap.size]? = some a ∧ ((W.alloc a).alloc b).heap[W.heap.size + 1]? = some b ∧ Below W.heap.size W ((W.alloc a).alloc b) := by
  refine ⟨?_, ?_, ?_⟩
  · exact (Below.heap_alloc _ _ _ (by simp)).trans (new_obj W a)
  · have := new_obj (W.alloc a) b
    simpa using this
  · exact ((Below.refl _ _).alloc (Nat.le_refl _) _).alloc (by simp) _
theorem mkS_app (a b : Bs) : mkS a ++ mkS b = mkS (a ++ b) := by
  apply ByteArray.ext
  simp [mkS]
set_option maxRecDepth 100000 in
set_option maxHeartbeats 4000000 in
theorem expand_calls (W : World) (c : ByteArray) (s e : Nat) (new : Bs) (hc : c.size ≤ 1000000) (hx : s ≤ e) (hxe : e ≤ c.size) (hnew : new.length ≤ 1000000000) :
    Calls Tryz.prog 57 #[.agg #[.int .i64 (s : Int), .int .i64 (e : Int), .string (mkS new)], .string c] W (ExpPost W c.data.toList ⟨s, e, new⟩) := by
  obtain ⟨q, hq, hli, hls, hnn⟩ := last_line c (s := s) (by omega)
  have hLI : ∀ w, Calls Tryz.prog 70 #[.string (c.extract 0 s), .string ⟨#[10]⟩] w fun e w' => e = .returned (.int .i64 ((q : Int) - 1)) ∧ w = w' := fun w => by
    refine (Tryz.strings_LastIndex_one (c.extract 0 s) ⟨#[10]⟩ rfl (by rw [← data_length, ext_toList, List.length_drop, List.length_take, data_length]; omega) w).mono ?_
    rintro e w' ⟨rfl, rfl⟩
    exact ⟨by rw [← hli]; rfl, rfl⟩
  have HLI := Aside0.mk hLI
  obtain ⟨N, hN⟩ : ∃ N, N = mkS new := ⟨_, rfl⟩
  have hNs : N.size ≤ 1000000000 := by rw [hN, mkS_size]; exact hnew
  obtain ⟨N1, hN1⟩ : ∃ N1, N1 = mkS (btw c.data.toList q s ++ new) := ⟨_, rfl⟩
  have hbl : (btw c.data.toList q s).length ≤ 1000000 := by rw [btw_length (by rw [data_length]; omega)]; omega
  have hN1s : N1.size ≤ 1001000000 := by rw [hN1, mkS_size, List.length_append]; omega
  have HN := Lib.hid hN
  have HN1 := Lib.hid hN1
  have HLS := Aside0.mk hls
  have HNN := Aside0.mk hnn
  rw [← hN]
  clear hLI hli hls hnn hN hN1 hbl
  have h0s : (s : Int) ≤ (c.size : Int) := by omega
  go_enter Tryz.func57, Tryz.ntmps57
  go_upto_if 19 with (go_at_call 70; (with_reducible refine (HLI.out _).mono ?_); rintro e w1 ⟨rfl, rfl⟩)
  go_cut [] (fun wx => Aside0 (wx.heap[W.heap.size]? = some (.cells #[.int .i64 (q : Int), .int .i64 (e : Int), .string N1] 68 (0, 0))) ∧ Aside0 (wx.heap[W.heap.size + 1]? = some (.cells #[.int .i64 0, .int .i64 0, .string ⟨#[]⟩] 68 (0, 0))) ∧ Aside0 (Below W.heap.size W wx))
  case first =>
    have r0 : (0 : Int) ≤ (s : Int) - ((s : Int) - 1 - ((q : Int) - 1)) := by omega
    have r1 : (s : Int) - ((s : Int) - 1 - ((q : Int) - 1)) ≤ (s : Int) := by omega
    have r2 : ((s : Int) - ((s : Int) - 1 - ((q : Int) - 1))).toNat = q := by omega
    by_cases hd : q < s
    · have ev : c.extract q s ++ N = N1 := by rw [HN.out, HN1.out, ext_mkS, mkS_app]; rfl
      have hH := two_heap W (.cells #[.int .i64 ((s : Int) - ((s : Int) - 1 - ((q : Int) - 1))), .int .i64 (e : Int), .string (c.extract q s ++ N)] 68) (.cells #[.int .i64 0, .int .i64 0, .string ⟨#[]⟩] 68)
      have r3 : (s : Int) - ((s : Int) - 1 - ((q : Int) - 1)) = (q : Int) := by omega
      have HH := Aside0.mk hH
      have EV := Lib.hid ev
      have R3 := Lib.hid r3
      clear hH ev r3
      go_wp2_with fail
      go_region
      all_goals
        go_wp2_with fail
        repeat (go_meet; exact ⟨⟨HH.out.1.trans (by rw [R3.out, EV.out])⟩, ⟨HH.out.2.1⟩, ⟨⟨rfl, rfl, rfl, HH.out.2.2.size, HH.out.2.2.block⟩⟩⟩)
    · have hqs : q = s := by omega
      have ev : N = N1 := by rw [HN.out, HN1.out, hqs, btw_nil, List.nil_append]
      have hH := two_heap W (.cells #[.int .i64 (s : Int), .int .i64 (e : Int), .string N] 68) (.cells #[.int .i64 0, .int .i64 0, .string ⟨#[]⟩] 68)
      have HH := Aside0.mk hH
      have HQS := Lib.hid hqs
      have HEV := Lib.hid ev
      clear hH ev hqs
      go_wp2_with fail
      go_meet
      case rel => exact ⟨⟨HH.out.1.trans (by rw [HQS.out, HEV.out])⟩, ⟨HH.out.2.1⟩, ⟨HH.out.2.2⟩⟩
  case rest =>
    obtain ⟨HB2, HB4, HBL⟩ := hcut
    have c0 : wc.cell? ⟨W.heap.size, 0, none⟩ = some (.int .i64 (q : Int)) := blk_cell HB2.out 0
    have c1 : wc.cell? ⟨W.heap.size, 1, none⟩ = some (.int .i64 (e : Int)) := blk_cell HB2.out 1
    have c2 : wc.cell? ⟨W.heap.size, 2, none⟩ = some (.string N1) := blk_cell HB2.out 2
    have f1 : wc.frozen? ⟨W.heap.size, 1, none⟩ = false := blk_frozen HB2.out 1
    have f2 : wc.frozen? ⟨W.heap.size, 2, none⟩ = false := blk_frozen HB2.out 2
    have h0e : (e : Int) ≤ (c.size : Int) := by omega
    obtain ⟨n1, hn1⟩ : ∃ n1, n1 = btw c.data.toList q s ++ new := ⟨_, rfl⟩
    have HN3 : Hid (N1 = mkS n1) := Lib.hid (by rw [HN1.out, hn1])
    have HNL := Lib.hid hn1
    obtain ⟨bw, hbw⟩ : ∃ b, b = decide (¬ LS c.data.toList e ∨ ¬ Whole n1) := ⟨_, rfl⟩
    have HBW := Lib.hid hbw
    clear hn1 hbw
    go_upto_region 7 with fail
    go_cut [60] (fun v60 wx => v60 = .bool bw ∧ wx = wc)
    case first =>
      -- <1
      by_cases hA : 0 < e ∧ ¬ LS c.data.toList e
      · obtain ⟨he0, hA2⟩ := hA
        have hp := prev_nl c he0 hxe (by omega)
        rw [decide_eq_true hA2] at hp
        have hb : bw = true := by rw [HBW.out]; exact decide_eq_true (Or.inl hA2)
        have HB0 := Lib.hid hb
        have k1 : (1 : Int) ≤ (e : Int) := by omega
        clear hA2 hb
        go_wp2_with fail
        go_meet
        case rel => exact ⟨by rw [HB0.out], rfl⟩
      · have hls : LS c.data.toList e := Classical.byContradiction fun h => by
          rcases Nat.eq_zero_or_pos e with h0 | h0
          · subst h0; exact h (ls_zero _)
          · exact hA ⟨h0, h⟩
        have hpv : ∀ (h0 : 0 < e), (((c[e - 1]'(by omega)).toNat : Int) != 10) = false := fun h0 => by
          rw [prev_nl c h0 hxe (by omega)]; exact decide_eq_false (not_not_intro hls)
        have hb : bw = decide (¬ Whole n1) := by
          rw [HBW.out]
          by_cases hw : Whole n1
          · rw [decide_eq_false (not_not_intro hw), decide_eq_false (by rintro (h | h); · exact h hls
                                                                        · exact h hw)]
          · rw [decide_eq_true hw, decide_eq_true (Or.inr hw)]
        have HB0 := Lib.hid hb
        have HPV := Aside0.mk hpv
        clear hA hls hpv hb
        by_cases hn : n1 = []
        · have hw : bw = false := by rw [HB0.out]; exact decide_eq_false (not_not_intro (Or.inl hn))
          have hie : N1.toList.isEmpty = true := by rw [HN3.out, toList_data, mkS_toList, hn]; rfl
          have HW := Lib.hid hw
          clear hw hn
          by_cases he0 : 0 < e
          · have hp := HPV.out he0
            have k1 : (1 : Int) ≤ (e : Int) := by omega
            go_wp2_with fail
            go_meet
            case rel => exact ⟨by rw [HW.out], rfl⟩
          · have he1 : decide (0 < e) = false := decide_eq_false he0
            go_wp2_with fail
            go_meet
            case rel => exact ⟨by rw [HW.out], rfl⟩
        · have hie : N1.toList.isEmpty = false := by
            rw [HN3.out, toList_data, mkS_toList]
            cases n1 with
            | nil => exact absurd rfl hn
            | cons a b => rfl
          have hpos : 0 < N1.size := by rw [HN3.out, mkS_size]; exact List.length_pos_iff.2 hn
          have hln := last_nl N1 hpos (by omega)
          rw [show N1.data.toList.take N1.size = n1 by rw [List.take_of_length_le (by rw [data_length]; exact Nat.le_refl _), HN3.out, mkS_toList]] at hln
          rw [← HB0.out] at hln
          have HLN := Lib.hid hln
          have k2 : (1 : Int) ≤ (N1.size : Int) := by omega
          clear hln hn
          by_cases he0 : 0 < e
          · have hp := HPV.out he0
            have k1 : (1 : Int) ≤ (e : Int) := by omega
            go_wp2_with fail
            go_meet
            case rel => exact ⟨by rw [← HLN.out], rfl⟩
          · have he1 : decide (0 < e) = false := decide_eq_false he0
            go_wp2_with fail
            go_meet
            case rel => exact ⟨by rw [← HLN.out], rfl⟩
      -- 1>
    case rest =>
      obtain ⟨rfl, rfl⟩ := hcut
      go_upto_if 60 with fail
      go_cut [] (fun wx => ∃ ye : Nat, e ≤ ye ∧ ye ≤ c.size ∧ Hid ((bw = true → NextEnd c.data.toList e ye) ∧ (bw = false → ye = e)) ∧ Aside0 (wx.heap[W.heap.size]? = some (.cells #[.int .i64 (q : Int), .int .i64 (ye : Int), .string N1] 68 (0, 0))) ∧ Aside0 (wx.heap[W.heap.size + 1]? = some (.cells #[.int .i64 0, .int .i64 0, .string ⟨#[]⟩] 68 (0, 0))) ∧ Aside0 (Below W.heap.size W wx))
      case first =>
        -- <3
        have hset : ∀ v : Value, (wc.setCell ⟨W.heap.size, 1, none⟩ v).heap[W.heap.size]? = some (.cells #[.int .i64 (q : Int), v, .string N1] 68 (0, 0)) ∧ (wc.setCell ⟨W.heap.size, 1, none⟩ v).heap[W.heap.size + 1]? = some (.cells #[.int .i64 0, .int .i64 0, .string ⟨#[]⟩] 68 (0, 0)) ∧ Below W.heap.size W (wc.setCell ⟨W.heap.size, 1, none⟩ v) := fun v =>
          ⟨by simpa using blk_set HB2.out 1 v, (Below.heap_setCell wc ⟨W.heap.size, 1, none⟩ v (W.heap.size + 1) (by show W.heap.size + 1 ≠ W.heap.size; omega)).trans HB4.out, HBL.out.trans ((Fr.set_ wc ⟨W.heap.size, 1, none⟩ v).below HBL.out.size (fun k hk => by rw [hk]; exact Nat.le_refl _))⟩
        have HSET := Aside0.mk hset
        clear hset
        cases bw with
        | false =>
          go_wp2_with fail
          go_meet
          case rel => exact ⟨e, Nat.le_refl _, hxe, Lib.hid ⟨(fun h => by cases h), fun _ => rfl⟩, ⟨HB2.out⟩, ⟨HB4.out⟩, ⟨HBL.out⟩⟩
        | true =>
          have hib : ∀ w, Calls Tryz.prog 71 #[.string (c.extract e c.size), .int .u8 10] w fun e_1 w' => e_1 = .returned (.int .i64 (Lib.indexByte (c.extract e c.size).data.toList 10)) ∧ w = w' := fun w => by
            refine (Tryz.strings_IndexByte (c.extract e c.size) 10 w).mono ?_
            rintro e1 w' ⟨rfl, rfl⟩
            exact ⟨rfl, rfl⟩
          rcases next_line c hxe with ⟨h1, h2⟩ | ⟨k, h1, h2, h3⟩
          · obtain ⟨v, hv⟩ : ∃ v, v = Lib.indexByte (c.extract e c.size).data.toList 10 := ⟨_, rfl⟩
            rw [← hv] at h1 hib
            have HIB := Aside0.mk hib
            have H2 := Aside0.mk h2
            clear hib h2 hv
            have hk : decide (v < 0) = true := decide_eq_true h1
            go_wp2_with (go_at_call 71; (with_reducible refine (HIB.out _).mono ?_); rintro e w1 ⟨rfl, rfl⟩)
            go_meet
            case rel => exact ⟨c.size, hxe, Nat.le_refl _, Lib.hid ⟨fun _ => H2.out, (fun h => by cases h)⟩, ⟨(HSET.out _).1⟩, ⟨(HSET.out _).2.1⟩, ⟨(HSET.out _).2.2⟩⟩
          · rw [h1] at hib
            have HIB := Aside0.mk hib
            have H3 := Aside0.mk h3
            clear hib h3 h1
            have hk : decide ((k : Int) < 0) = false := decide_eq_false (by omega)
            have k2 : (e : Int) + (k : Int) + 1 ≤ (c.size : Int) := by omega
            go_wp2_with (go_at_call 71; (with_reducible refine (HIB.out _).mono ?_); rintro e w1 ⟨rfl, rfl⟩)
            go_meet
            case rel => exact ⟨e + k + 1, by omega, h2, Lib.hid ⟨fun _ => H3.out, (fun h => by cases h)⟩, ⟨(HSET.out _).1.trans (by simp)⟩, ⟨(HSET.out _).2.1⟩, ⟨(HSET.out _).2.2⟩⟩
        -- 3>
      case rest =>
        obtain ⟨ye, g1, g2, HYE, HC2, HC4, HCL⟩ := hcut
        -- <4
        have d0 := blk_cell HC2.out 0
        have d1 := blk_cell HC2.out 1
        have d2 := blk_cell HC2.out 2
        have e2 := blk_frozen HC2.out 2
        have z0 := blk_cell HC4.out 0
        have z1 := blk_cell HC4.out 1
        have z2 := blk_cell HC4.out 2
        have y0 := blk_frozen HC4.out 0
        have y1 := blk_frozen HC4.out 1
        have y2 := blk_frozen HC4.out 2
        simp only [List.getElem?_toArray, List.getElem?_cons_zero, List.getElem?_cons_succ] at d0 d1 d2 z0 z1 z2
        have g3 : (e : Int) ≤ (ye : Int) := by omega
        have g4 : (ye : Int) ≤ (c.size : Int) := by omega
        have gs : (c.extract e ye).size ≤ 1000000 := by rw [← data_length, ext_toList, List.length_drop, List.length_take, data_length]; omega
        clear c0 c1 c2 f1 f2
        go_upto_region 12 with fail
        go_region
        all_goals
          go_wp2_with fail
          have hA := (Below.heap_setCell wc ⟨W.heap.size, 2, none⟩ (.string (N1 ++ c.extract e ye)) (W.heap.size + 1) (by show W.heap.size + 1 ≠ W.heap.size; omega)).trans HC4.out
          have a6 := blk_set (blk_set (blk_set hA 0 (.int .i64 (q : Int))) 1 (.int .i64 (ye : Int))) 2 (.string (N1 ++ c.extract e ye))
          refine bodyPost_ret (results_cell rfl _ _ (W.heap.size + 1) 68 #[.int .i64 (q : Int), .int .i64 (ye : Int), .string (N1 ++ c.extract e ye)] (0, 0) _ rfl a6 Tryz.underlying68 rfl (by kernel_rfl)) rfl ?_
          have hN2 : N1 ++ c.extract e ye = mkS (btw c.data.toList q s ++ new ++ btw c.data.toList e ye) := by rw [HN1.out, ext_mkS, mkS_app]; rfl
          refine ⟨⟨q, ye, btw c.data.toList q s ++ new ++ btw c.data.toList e ye⟩, by rw [← hN2], ⟨hq, HLS.out, HNN.out, ?_, ?_, rfl⟩, ?_⟩
          · intro hnd
            refine HYE.out.1 ?_
            rw [HBW.out, HNL.out]
            exact decide_eq_true hnd
          · intro hnd
            refine HYE.out.2 ?_
            rw [HBW.out, HNL.out]
            exact decide_eq_false hnd
          · have hf : ∀ (w : World) (v0 v1 v2 v3 : Value), Fr w ((((w.setCell ⟨W.heap.size, 2, none⟩ v0).setCell ⟨W.heap.size + 1, 0, none⟩ v1).setCell ⟨W.heap.size + 1, 1, none⟩ v2).setCell ⟨W.heap.size + 1, 2, none⟩ v3) (fun k => W.heap.size ≤ k) := fun w v0 v1 v2 v3 =>
              Fr.then_ (Fr.then_ (Fr.then_ ((Fr.set_ w ⟨W.heap.size, 2, none⟩ _).mono (fun k hk => by rw [hk]; exact Nat.le_refl _)) (Fr.set_ _ ⟨W.heap.size + 1, 0, none⟩ _) (fun k hk => Or.inl (by rw [hk]; exact Nat.le_succ _))) (Fr.set_ _ ⟨W.heap.size + 1, 1, none⟩ _) (fun k hk => Or.inl (by rw [hk]; exact Nat.le_succ _))) (Fr.set_ _ ⟨W.heap.size + 1, 2, none⟩ _) (fun k hk => Or.inl (by rw [hk]; exact Nat.le_succ _))
            have hf2 := (hf wc (.string (N1 ++ c.extract e ye)) (.int .i64 (q : Int)) (.int .i64 (ye : Int)) (.string (N1 ++ c.extract e ye))).below HCL.out.size (fun k hk => hk)
            have hf3 := HCL.out.trans hf2
            exact ⟨hf3.os, hf3.tape, hf3.output, hf3.size, hf3.block⟩
        -- 4>
end Go.Proofs.YtonajgipkpnpoaaGreatDoor.Un
