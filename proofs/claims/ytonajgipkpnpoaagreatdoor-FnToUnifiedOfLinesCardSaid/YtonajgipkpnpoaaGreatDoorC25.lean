/- fix: pieces that may overlap are made a chain. twosided: the road from both ends. Printed by wip/gen/gents.py. -/
import Derived.Test.YtonajgipkpnpoaaGreatDoorC23
import Derived.Test.YtonajgipkpnpoaaGreatDoorC19
import Derived.Test.YtonajgipkpnpoaaGreatDoorC01
import Derived.Test.YtonajgipkpnpoaaGreatDoorC24
namespace Go.Proofs.YtonajgipkpnpoaaGreatDoor.Gr
open Go.RowKit Go.Proofs.YtonajgipkpnpoaaGreatDoorW.PrintWords Go.Myers
set_option linter.unusedVariables false
structure FxS (W2 w : World) (v3 : Value) (t : List Dg) : Prop where
  bel : Go.RowKit.Below W2.heap.size W2 w
  row : DgRow w W2.heap.size v3 t
structure NxS (wr w : World) (q : Dg) : Prop where
  bel : Go.RowKit.Below wr.heap.size wr w
  blk : w.heap[wr.heap.size]? = some (.cells (cellsA q) 162 (0, 0))
theorem NxS.start (wr : World) (p : Dg) : NxS wr (wr.alloc (.cells #[.int .i64 p.x, .int .i64 p.y, .int .i64 p.len] 162)) p :=
  ⟨below_alloc (Below.refl _ _) _, new_obj wr _⟩
theorem NxS.more {wr w w' : World} {q : Dg} (h : NxS wr w q) (hb : Go.RowKit.Below w.heap.size w w') : NxS wr w' q :=
  ⟨h.bel.trans (hb.mono h.bel.size), (hb.block _ (blk_lt h.blk)).trans h.blk⟩
theorem NxS.put {wr w : World} {q : Dg} (h : NxS wr w q) (q' : Dg) : NxS wr (((w.setCell ⟨wr.heap.size, 0, none⟩ (.int .i64 q'.x)).setCell ⟨wr.heap.size, 1, none⟩ (.int .i64 q'.y)).setCell ⟨wr.heap.size, 2, none⟩ (.int .i64 q'.len)) q' :=
  ⟨Below.setCell (Below.setCell (Below.setCell h.bel (Nat.le_refl _) _) (Nat.le_refl _) _) (Nat.le_refl _) _, blk_set (blk_set (blk_set h.blk 0 _) 1 _) 2 _⟩
theorem row_slice {W : World} {B : Nat} {v : Value} {l : List Dg} (h : DgRow W B v l) (hl : l ≠ []) : ∃ g cap, v = .slice (some ⟨g, 0, none⟩) l.length cap ∧ B ≤ g ∧ g < W.heap.size := by
  obtain ⟨A, cap, rfl⟩ := own_slice h
  rcases h.2 with ⟨_, h0⟩ | ⟨g, cap', cur, hv, hB, hh, _⟩
  · exact absurd (List.eq_nil_of_length_eq_zero h0) hl
  · injection hv with e1 e2 e3
    exact ⟨g, cap, by rw [e1], hB, blk_lt hh⟩
theorem row_cells {W : World} {B g cap : Nat} {l : List Dg} (h : DgRow W B (.slice (some ⟨g, 0, none⟩) l.length cap) l) {i : Nat} {d : Dg} (hi : l[i]? = some d) :
    W.cell? ⟨g, i * 3, none⟩ = some (.int .i64 d.x) ∧ W.cell? ⟨g, i * 3 + 1, none⟩ = some (.int .i64 d.y) ∧ W.cell? ⟨g, i * 3 + 2, none⟩ = some (.int .i64 d.len) := by
  obtain ⟨h0, h1, h2⟩ := rowD_get l i d hi
  exact ⟨(own_at h _ _ h0).1, (own_at h _ _ h1).1, (own_at h _ _ h2).1⟩
def FixPost (W : World) (B : Nat) (E : Nat → Nat → Bool) (N M : Nat) (e : Ending) (w' : World) : Prop :=
  ∃ v l, e = .returned v ∧ DgRow w' B v l ∧ Go.RowKit.Below B W w' ∧ Chain E N M l 0 0
set_option maxRecDepth 100000 in
set_option maxHeartbeats 4000000 in
theorem fix_any (W : World) (B : Nat) (hB : B ≤ W.heap.size) (v : Value) (l : List Dg) (h : DgRow W B v l) {E : Nat → Nat → Bool} {N M : Nat} (hN : N ≤ 1000000) (hM : M ≤ 1000000) (hl : l.length ≤ 4000000) (hg : ∀ d ∈ l, Go.Myers.Good E N M d) :
    Calls Tryz.prog 86 #[v] W fun e w' => FixPost W B E N M e w' := by
  by_cases hne : l = []
  · subst hne
    obtain ⟨A, cap, rfl⟩ := own_slice h
    clear h hg
    go_enter Tryz.func86, Tryz.ntmps86
    go_wp2_with fail
    go_ret
    exact ⟨_, [], rfl, ⟨rfl, Or.inl ⟨rfl, rfl⟩⟩, (below_alloc (Below.refl _ _) _).mono hB, trivial⟩
  · obtain ⟨g, cap, rfl, hgB, hgs⟩ := row_slice h hne
    have hpos : 0 < l.length := List.length_pos_iff.2 hne
    have hb1 : Go.RowKit.Below W.heap.size W (W.alloc (.cells #[.slice (some ⟨g, 0, none⟩) l.length cap] 115)) := below_alloc (Below.refl _ _) _
    have hc1 : (W.alloc (.cells #[.slice (some ⟨g, 0, none⟩) l.length cap] 115)).cell? ⟨W.heap.size, 0, none⟩ = some (.slice (some ⟨g, 0, none⟩) l.length cap) := (blk_cell (new_obj W _) 0).trans rfl
    have hs := slice_L (W.alloc (.cells #[.slice (some ⟨g, 0, none⟩) l.length cap] 115)) B W.heap.size _ l (h.below hb1) hc1 (fun e => by simp [Value.ownBlock] at e; omega) (by omega)
    have HC := Lib.hid hc1
    have HB := Aside0.mk hb1
    have HGD := Aside0.mk hg
    obtain ⟨i0, hi, hz0, hz1, hz2⟩ := info_parts info76
    clear hb1 h hg
    go_enter Tryz.func86, Tryz.ntmps86
    go_upto_region 4 with (go_at_call 103; refine hs.mono ?_; rintro e w2 ⟨rfl, l', hr, hgb, hp, hx⟩)
    have hc2 : w2.cell? ⟨W.heap.size, 0, none⟩ = some (.slice (some ⟨g, 0, none⟩) l.length cap) := hgb.cell HC.out (fun e => by simp [Value.ownBlock] at e; omega)
    have hlen : l'.length = l.length := hp.length_eq.symm
    have hbw : Go.RowKit.Below B W w2 := (HB.out.mono hB).grown hgb (by simp; omega) (fun k hk => by simp [Value.ownBlock] at hk; omega)
    obtain ⟨n, hn⟩ : ∃ n, n = l.length := ⟨_, rfl⟩
    rw [← hn] at hr hc2 hpos hl hlen
    have hr' : DgRow w2 B (.slice (some ⟨g, 0, none⟩) l'.length cap) l' := by rw [hlen]; exact hr
    have hgl : ∀ d ∈ l', Go.Myers.Good E N M d := fun d hd => HGD.out d (hp.mem_iff.2 hd)
    obtain ⟨d0, hd0⟩ : ∃ d, l'[0]? = some d := ⟨_, List.getElem?_eq_getElem (by rw [hlen]; exact hpos)⟩
    have hgd0 := hgl d0 (List.mem_of_getElem? hd0)
    obtain ⟨k0, k1, k2⟩ := row_cells hr' hd0
    rw [Nat.zero_mul] at k0 k1 k2
    have hlt : g < w2.heap.size := own_lt hr g rfl
    have HR := Aside0.mk hr'
    have HC2 := Aside0.mk hc2
    have HBW := Aside0.mk hbw
    have HGL := Aside0.mk hgl
    have HGD0 := Aside0.mk hgd0
    have HLN := Lib.hid hlen
    have HLT := Lib.hid hlt
    have HWS : Hid (W.heap.size < w2.heap.size) := Lib.hid (World.block_lt_of_cell? w2 ⟨W.heap.size, 0, none⟩ hc2)
    clear hs hr hr' hgb hp hx hbw hgl hgd0 hlen hc1 HC HB HGD hgs hlt hne
    rw [← hn]
    clear hn
    go_upto_region 5 with (at_make; go_loud (refine wpList_make_own _ (by rfl) (.const (.int .i64 0)) (.tmp 17) 115 (by rfl) w2.heap.size 162 i0 _ 3 Tryz.underlying115 hi hz0 hz1 .i64 .i64 (n : Int) n (by rfl) (by rfl) rfl (by rw [hz2]; omega) (by unfold maxLen; omega) (Nat.le_refl _) ?_; intro w3 ho3 hg3))
    have hb3 : Go.RowKit.Below w2.heap.size w2 w3 := ⟨hg3.os, hg3.tape, hg3.output, hg3.size, fun k hk => hg3.block k hk (fun e => by cases e)⟩
    have hc3 := (World.grownBy.cell_far hg3 ⟨W.heap.size, 0, none⟩ HWS.out (by simp)).trans hc2
    have m0 := (World.grownBy.cell_far hg3 ⟨g, 0, none⟩ HLT.out (by simp)).trans k0
    have m1 := (World.grownBy.cell_far hg3 ⟨g, 0 + 1, none⟩ HLT.out (by simp)).trans k1
    have m2 := (World.grownBy.cell_far hg3 ⟨g, 0 + 2, none⟩ HLT.out (by simp)).trans k2
    simp only [Nat.zero_add] at m1 m2
    have HB3 := Aside0.mk hb3
    have HO3 := Aside0.mk ho3
    clear hb3 ho3 hg3 k0 k1 k2 hc2
    have hnew : ∀ (W1 : World) (d : Dg), ∀ j u, [Value.int .i64 d.x, .int .i64 d.y, .int .i64 d.len][j]? = some u → (W1.alloc (.cells #[.int .i64 d.x, .int .i64 d.y, .int .i64 d.len] 162)).cell? ((⟨W1.heap.size, 0, none⟩ : Addr).add j) = some u := fun W1 d j u hu => by
      rw [add_plain, blk_cell (new_obj W1 _)]
      simpa using hu
    have HN := Aside0.mk hnew
    clear hnew
    go_upto_region 6 with (at_builtin; go_loud (refine wpList_append_own _ rfl (.tmp 19) (.tmp 23) 115 rfl w2.heap.size 162 i0 _ 3 24 Tryz.underlying115 hi hz0 hz1 hz2 rfl (by decide) _ _ _ rfl (own_move HO3.out (fun k hk => Below.heap_alloc _ _ k (own_lt HO3.out k hk))) ⟨w3.heap.size, 0, none⟩ 1 1 [.int .i64 d0.x, .int .i64 d0.y, .int .i64 d0.len] rfl rfl ?h1 ?h2 ?h3 ?h4 ?h5 ?_; (case h1 => exact HN.out _ _); (case h2 => intro u hu; simp at hu; rcases hu with rfl | rfl | rfl <;> rfl); (case h3 => unfold maxLen; omega); (case h4 => omega); (case h5 => have := HB3.out.size; simp; omega); intro v4 w4 hown hgr _))
    have hfx : FxS w2 w4 v4 [d0] := ⟨(below_alloc HB3.out _).grown hgr (by have := HB3.out.size; simp; omega) (fun k hk => own_base HO3.out k hk), hown⟩
    have HFX := Aside0.mk hfx
    have HF0 : Aside0 (Fx E N M [d0]) := ⟨Fx.one HGD0.out⟩
    clear hfx hown hgr hc3 m0 m1 m2 HB3 HO3
    go_wp2_with fail
    go_loopw [3, 4] (fun v3 v5 wr => ∃ (i : Nat) (t : List Dg), v5 = .int .i64 i ∧ 1 ≤ i ∧ i ≤ n ∧ t.length ≤ i ∧ t ≠ [] ∧ Aside0 (Fx E N M t) ∧ Aside0 (FxS w2 wr v3 t)) (fun _ v5 _ => n - (intOf v5).toNat)
    case atStart => exact ⟨1, [d0], rfl, Nat.le_refl _, by omega, Nat.le_refl _, by simp, HF0, HFX⟩
    case round =>
      obtain ⟨i, t, rfl, hi1, hi2, ht, htne, HF, HS⟩ := hrel
      clear HFX HF0
      obtain ⟨wo, hwo⟩ : ∃ x, x = wr := ⟨wr, rfl⟩
      subst hwo
      obtain ⟨gt, ct, rfl, hgt1, hgt2⟩ := row_slice HS.out.row htne
      have hcr : wo.cell? ⟨W.heap.size, 0, none⟩ = some (.slice (some ⟨g, 0, none⟩) n cap) := (World.cell?_of_block (HS.out.bel.block _ HWS.out)).trans HC2.out
      by_cases hlt : i < n
      · obtain ⟨p, hp⟩ : ∃ p, l'[i]? = some p := ⟨_, List.getElem?_eq_getElem (by rw [HLN.out]; exact hlt)⟩
        have hgp := HGL.out p (List.mem_of_getElem? hp)
        have hrw := HR.out.below HS.out.bel
        obtain ⟨k0, k1, k2⟩ := row_cells hrw hp
        have bp := hgp.bnd hN hM
        have HGP := Aside0.mk hgp
        clear hrw hgp hp
        have hp0 : 0 < p.len := bp.2.2.2.2.1
        have HP0 := Lib.hid hp0
        have HBP := Aside0.mk bp
        have hnx := NxS.start wo p
        have HNX := Aside0.mk hnx
        clear hp0 bp hnx
        go_upto_block 2 with fail
        go_cut [5] from 37 to 53 (fun v5 w5 => ∃ (dir : Int) (q : Dg), v5 = .int .i64 dir ∧ Hid ((dir = 3 ∨ q.len ≤ 0) ∨ (0 < q.len ∧ dir ≠ 3 ∧ Sub q p ∧ ∀ e ∈ t, Sep q e)) ∧ Aside0 (NxS wo w5 q))
        case first =>
          go_wp2_with fail
          go_loopw [5, 37] (fun v5 v37 wr => ∃ (dir : Int) (j : Nat) (q : Dg), v5 = .int .i64 dir ∧ v37 = .int .i64 j ∧ j ≤ t.length ∧ Hid (Tr t j p dir q) ∧ Aside0 (NxS wo wr q)) (fun _ v37 _ => t.length - (intOf v37).toNat)
          case atStart => exact ⟨0, 0, p, rfl, rfl, Nat.zero_le _, Lib.hid (Or.inl ⟨rfl, rfl, rfl⟩), HNX⟩
          case round =>
            obtain ⟨dir, j, q, rfl, rfl, hj, HT, HQ⟩ := hrel
            by_cases hjt : j < t.length
            · obtain ⟨e, he⟩ : ∃ e, t[j]? = some e := ⟨_, List.getElem?_eq_getElem hjt⟩
              have be := (HF.out.good e (List.mem_of_getElem? he)).bnd hN hM
              have bq := ((HT.out.sub HP0.out).good HGP.out).bnd hN hM
              have hov : ∀ W1, Calls Tryz.prog 105 #[.agg #[.int .i64 e.x, .int .i64 e.y, .int .i64 e.len], .agg #[.int .i64 q.x, .int .i64 q.y, .int .i64 q.len]] W1 (fun r w' => Go.RowKit.Below W1.heap.size W1 w' ∧ ∃ (dir : Int) (q' : Dg), r = .returned (.tuple #[.int .i64 dir, .agg #[.int .i64 q'.x, .int .i64 q'.y, .int .i64 q'.len]]) ∧ (dir = 0 ∨ dir = 1 ∨ dir = 2 ∨ dir = 3) ∧ (dir = 0 → q'.len ≤ 0) ∧ (dir ≠ 0 → Sub q' q) ∧ (dir = 1 ∨ dir = 2 → Sep q' e)) := fun W1 => overlap_any W1 e q ⟨be.1, be.2.1, be.2.2.1, be.2.2.2.1, by omega, be.2.2.2.2.2⟩ bq
              obtain ⟨c0, c1, c2⟩ := row_cells (HS.out.row.below HQ.out.bel) he
              have hqa := HQ.out.more (below_alloc (Go.RowKit.Below.refl _ _) (.cells #[.int .i64 e.x, .int .i64 e.y, .int .i64 e.len] 162))
              have n0 : (wr.alloc (.cells #[.int .i64 e.x, .int .i64 e.y, .int .i64 e.len] 162)).cell? ⟨wo.heap.size, 0, none⟩ = some (.int .i64 q.x) := (blk_cell hqa.blk 0).trans rfl
              have n1 : (wr.alloc (.cells #[.int .i64 e.x, .int .i64 e.y, .int .i64 e.len] 162)).cell? ⟨wo.heap.size, 1, none⟩ = some (.int .i64 q.y) := (blk_cell hqa.blk 1).trans rfl
              have n2 : (wr.alloc (.cells #[.int .i64 e.x, .int .i64 e.y, .int .i64 e.len] 162)).cell? ⟨wo.heap.size, 2, none⟩ = some (.int .i64 q.len) := (blk_cell hqa.blk 2).trans rfl
              clear hqa
              have HE := Lib.hid he
              clear he be bq
              go_upto_region 15 with (go_at_call 105; go_loud (refine (hov _).mono ?_; rintro r w6 ⟨hb6, dir', q', rfl, hd', h0', hs', hsep'⟩; have HQ6 := Aside0.mk ((HQ.out.more (below_alloc (Go.RowKit.Below.refl _ _) _)).more hb6); have n3 : w6.cell? ⟨wo.heap.size, 0, none⟩ = some (.int .i64 q.x) := (blk_cell HQ6.out.blk 0).trans rfl; have n4 : w6.cell? ⟨wo.heap.size, 1, none⟩ = some (.int .i64 q.y) := (blk_cell HQ6.out.blk 1).trans rfl; have n5 : w6.cell? ⟨wo.heap.size, 2, none⟩ = some (.int .i64 q.len) := (blk_cell HQ6.out.blk 2).trans rfl; have fr0 := blk_frozen HQ6.out.blk 0; have fr1 := blk_frozen HQ6.out.blk 1; have fr2 := blk_frozen HQ6.out.blk 2; have HD' := Lib.hid hd'; have H0' := Lib.hid h0'; have HS' := Lib.hid hs'; have HSP := Lib.hid hsep'; clear hd' h0' hs' hsep' hb6))
              rcases HD'.out with rfl | rfl | rfl | rfl
              · have HZ := Lib.hid (H0'.out rfl)
                clear HD' H0' HS' HSP
                go_wp2_with fail
                go_meet
                exact ⟨0, q', rfl, Lib.hid (Or.inl (Or.inr HZ.out)), ⟨HQ6.out.put q'⟩⟩
              · have HZ := Lib.hid (HT.out.next HP0.out HE.out (Or.inl rfl) (HS'.out (by decide)) (HSP.out (Or.inl rfl)))
                clear HD' H0' HS' HSP
                go_wp2_with fail
                go_roundw
                case rel => exact ⟨1, j + 1, q', rfl, by go_num, by omega, HZ, ⟨HQ6.out.put q'⟩⟩
                case measure => simp [intOf]; omega
              · have HZ := Lib.hid (HT.out.next HP0.out HE.out (Or.inr rfl) (HS'.out (by decide)) (HSP.out (Or.inr rfl)))
                clear HD' H0' HS' HSP
                go_wp2_with fail
                go_roundw
                case rel => exact ⟨2, j + 1, q', rfl, by go_num, by omega, HZ, ⟨HQ6.out.put q'⟩⟩
                case measure => simp [intOf]; omega
              · clear HD' H0' HS' HSP
                go_wp2_with fail
                go_meet
                exact ⟨3, q', rfl, Lib.hid (Or.inl (Or.inl rfl)), ⟨HQ6.out.put q'⟩⟩
            · obtain rfl : j = t.length := by omega
              go_wp2_with fail
              go_meet
              refine ⟨dir, q, rfl, Lib.hid (Or.inr ?_), HQ⟩
              obtain ⟨a1, a2⟩ := HT.out.all HP0.out
              obtain ⟨_, _, _, _, _, a3⟩ := id a1
              rcases a2 with ⟨_, a2⟩ | ⟨a2, a4⟩
              · exact absurd a2 htne
              · exact ⟨a3, by omega, a1, a4⟩
        case rest =>
          obtain ⟨dir, q, rfl, HD, HQ⟩ := hcut
          have n0 : wc.cell? ⟨wo.heap.size, 0, none⟩ = some (.int .i64 q.x) := (blk_cell HQ.out.blk 0).trans rfl
          have n1 : wc.cell? ⟨wo.heap.size, 1, none⟩ = some (.int .i64 q.y) := (blk_cell HQ.out.blk 1).trans rfl
          have n2 : wc.cell? ⟨wo.heap.size, 2, none⟩ = some (.int .i64 q.len) := (blk_cell HQ.out.blk 2).trans rfl
          have hsz := (HS.out.bel.trans (HQ.out.bel.mono HS.out.bel.size)).size
          rcases HD.out with hd | ⟨d1, d2, d3, d4⟩
          · by_cases hq : 0 < q.len
            · obtain rfl : dir = 3 := by omega
              clear hd HD
              go_wp2_with fail
              go_roundw
              case rel => exact ⟨i + 1, t, by go_num, by omega, by omega, by omega, htne, HF, ⟨HS.out.bel.trans (HQ.out.bel.mono HS.out.bel.size), HS.out.row.below HQ.out.bel⟩⟩
              case measure => simp [intOf]; omega
            · clear hd HD
              go_wp2_with fail
              go_roundw
              case rel => exact ⟨i + 1, t, by go_num, by omega, by omega, by omega, htne, HF, ⟨HS.out.bel.trans (HQ.out.bel.mono HS.out.bel.size), HS.out.row.below HQ.out.bel⟩⟩
              case measure => simp [intOf]; omega
          · have hq3 : (dir != 3) = true := by simpa using d2
            have D3 := Lib.hid d3
            have D4 := Lib.hid d4
            have HRW := Aside0.mk (HS.out.row.below HQ.out.bel)
            clear HD d2 d3 d4
            go_wp2_with (at_builtin; go_loud (refine wpList_append_own _ rfl (.tmp 61) (.tmp 63) 115 rfl w2.heap.size 162 i0 _ 3 24 Tryz.underlying115 hi hz0 hz1 hz2 rfl (by decide) _ _ _ rfl (own_move HRW.out (fun k hk => Below.heap_alloc _ _ k (own_lt HRW.out k hk))) ⟨wc.heap.size, 0, none⟩ 1 1 [.int .i64 q.x, .int .i64 q.y, .int .i64 q.len] rfl rfl ?h1 ?h2 ?h3 ?h4 ?h5 ?_; (case h1 => exact HN.out _ _); (case h2 => intro u hu; simp at hu; rcases hu with rfl | rfl | rfl <;> rfl); (case h3 => unfold maxLen; omega); (case h4 => omega); (case h5 => simp; omega); intro v7 w7 hown hgr _; have HOW := Aside0.mk hown; have HGR := Aside0.mk hgr; clear hown hgr))
            go_roundw
            case rel =>
              refine ⟨i + 1, t ++ [q], by go_num, by omega, by omega, by simp; omega, by simp, ⟨HF.out.snoc (D3.out.good HGP.out) D4.out⟩, ⟨(below_alloc (HS.out.bel.trans (HQ.out.bel.mono HS.out.bel.size)) _).grown HGR.out (by simp; omega) (fun k hk => own_base HRW.out k hk), ?_⟩⟩
              have := HOW.out
              unfold DgRow
              rw [show (t ++ [q]).length = t.length + 1 by simp, show rowD (t ++ [q]) = rowD t ++ [.int .i64 q.x, .int .i64 q.y, .int .i64 q.len] by simp [rowD, cellsD]]
              exact this
            case measure => simp [intOf]; omega
      · have htl : t.length ≤ 4000000 := by omega
        go_wp2_with (go_at_call 98; go_loud (refine (lcs_sort wo w2.heap.size HS.out.bel.size _ t HS.out.row (by omega)).mono ?_; rintro e w8 ⟨l8, rfl, hr8, hg8, hp8, hx8⟩; have HR8 := Aside0.mk hr8; have HG8 := Aside0.mk hg8; have HP8 := Aside0.mk hp8; have HX8 := Aside0.mk hx8; clear hr8 hg8 hp8 hx8))
        go_ret
        exact ⟨_, l8, rfl, own_base_mono HR8.out (Nat.le_trans hB HBW.out.size), HBW.out.trans ((HS.out.bel.grown HG8.out HS.out.bel.size (fun k hk => own_base HS.out.row k hk)).mono (Nat.le_trans hB HBW.out.size)), HF.out.chain HP8.out HX8.out⟩
end Go.Proofs.YtonajgipkpnpoaaGreatDoor.Gr
namespace Go.Proofs.YtonajgipkpnpoaaGreatDoor.Gr
open Go.RowKit Go.Proofs.YtonajgipkpnpoaaGreatDoorW.PrintWords Go.Myers
set_option linter.unusedVariables false
def Rg (c : Cx) (k : Int) : Prop := 0 ≤ lab c.E c.N c.dl c.lim k ∧ 0 ≤ lab c.E c.N c.dl c.lim k - (k + c.dl)
def Ck (c : Cx) (D : Nat) : Prop := ∀ d, d < D → Apart2 c.E c.N c.M d d ∧ Apart2 c.E c.N c.M (d + 1) d
theorem Ck.next {c : Cx} {D : Nat} (h : Ck c D) (h1 : Apart2 c.E c.N c.M D D) (h2 : Apart2 c.E c.N c.M (D + 1) D) : Ck c (D + 1) := fun d hd => by
  by_cases e : d = D
  · rw [e]; exact ⟨h1, h2⟩
  · exact h d (by omega)
theorem rf_some2 {c : Cx} (h : Ck c c.lim) : ∃ k, valid c.lim k ∧ Rf c c.N c.M k := by
  obtain ⟨k, hv, h1, h2⟩ := in_range' (E := mir c.E c.N c.M) (N := c.N) (M := c.M) (dl := (c.N : Int) - c.M) rfl c.lim (open_fwd (df := c.lim) (db := c.lim) ⟨h, Or.inl rfl⟩)
  refine ⟨-k, valid_neg hv, ?_⟩
  unfold Rf flab
  rw [Int.neg_neg]
  exact ⟨by omega, by omega⟩
theorem rg_some {c : Cx} (h : Ck c c.lim) : ∃ k, valid c.lim k ∧ Rg c k := by
  obtain ⟨k, hv, h1, h2⟩ := in_range' (E := c.E) (N := c.N) (M := c.M) (dl := (c.N : Int) - c.M) rfl c.lim (open_back (df := c.lim) (db := c.lim) ⟨h, Or.inl rfl⟩)
  exact ⟨k, hv, h1, h2⟩
section
variable {c : Cx} {w : World} {df db : Nat} {Kf Kb : Int → Prop}
theorem done_b (ho : c.ok) (h : GS c c.N c.M w (df + 1) Kf (db + 1) Kb) (hdf : df ≤ 100000) (hdb : db ≤ 100000) {a b : Int} (e1 : a = df) (e2 : b = db) :
    Calls Tryz.prog 78 #[.pointer (some ⟨c.ge, 0, none⟩), .int .i64 a, .int .i64 b] w fun e w' => (∃ q, w' = w.drewN q) ∧ ∃ (k : Int) (b : Bool), e = .returned (.tuple #[.int .i64 k, .bool b]) ∧ (b = true → Met2 c.E c.N c.M df db k) ∧ (b = false → Apart2 c.E c.N c.M df db) := by
  subst e1 e2
  refine (two_done ho h hdf hdb).mono fun e w' ⟨h1, h2⟩ => ⟨h1, ?_⟩
  rcases h2 with ⟨k, rfl, hm⟩ | ⟨rfl, ha⟩
  · exact ⟨k, true, rfl, fun _ => hm, fun h => by cases h⟩
  · exact ⟨0, false, rfl, fun h => (by cases h), fun _ => ha⟩
theorem two_b (ho : c.ok) (h : GS c c.N c.M w (df + 1) Kf (db + 1) Kb) (hdf : df ≤ 100000) (hdb : db ≤ 100000) {k a b : Int} (hm : Met2 c.E c.N c.M df db k) (hbf : Before2 c.E c.N c.M df db) (e1 : a = df) (e2 : b = db) :
    Calls Tryz.prog 79 #[.pointer (some ⟨c.ge, 0, none⟩), .int .i64 a, .int .i64 b, .int .i64 k] w fun e w' => TwPost c e w' := by
  subst e1 e2
  exact two_lcs ho h hdf hdb hm hbf
end
set_option maxRecDepth 100000 in
set_option maxHeartbeats 8000000 in
theorem two_sided (c : Cx) (ho : c.ok) (hl2 : c.lim ≤ 99999) (h : GS c c.N c.M c.W0 0 (fun _ => False) 0 (fun _ => False)) :
    Calls Tryz.prog 62 #[.pointer (some ⟨c.ge, 0, none⟩)] c.W0 fun e w' => TwPost c e w' := by
  obtain ⟨c3, c4, c5, c6, c7, c8⟩ := gs_cells h
  have hdl := ho.dl
  have hN := ho.hN
  have hM := ho.hM
  have v0 : valid 0 0 := ⟨by omega, by omega, by omega⟩
  have e32 := gs_setF (Kf' := fun k => k = 0) h (Nat.le_refl _) (Nat.le_refl _) 0 0 v0 (by omega) ⟨by omega, by omega⟩ (by omega) (flab_zero c.E c.N c.M 0).symm (fun k' h => Or.inr h)
  rw [show ((0 : Nat) : Int) = 0 from rfl] at e32
  have HO := Aside0.mk ho
  clear ho h
  go_enter Tryz.func62, Tryz.ntmps62
  go_upto_region 2 with (go_at_call 76; go_loud (refine e32.mono ?_; rintro e w1 ⟨rfl, hs⟩; have HS1 := Aside0.mk hs; clear hs))
  obtain ⟨d3, d4, d5, d6, d7, d8⟩ := gs_cells HS1.out
  have e33 := gs_setB (Kb' := fun k => k = 0) HO.out HS1.out 0 c.N v0 (by omega) ⟨by omega, by omega⟩ (by show (c.N : Int) - (0 + c.dl) ≤ c.M; unfold Cx.dl; omega) rfl (fun k' h => Or.inr h)
  rw [show ((0 : Nat) : Int) = 0 from rfl] at e33
  clear e32 c3 c4 c5 c6 c7 c8
  go_upto_region 3 with (go_at_call 77; go_loud (refine e33.mono ?_; rintro e w2 ⟨rfl, hs⟩; have HS2 := Aside0.mk hs; clear hs))
  replace HS2 : Aside0 (GS c c.N c.M w2 1 (fun _ => False) 1 (fun _ => False)) := ⟨(HS2.out.nextF (fun k hv => by obtain ⟨a, b, _⟩ := hv; omega)).nextB (fun k hv => by obtain ⟨a, b, _⟩ := hv; omega)⟩
  clear HS1 e33 d3 d4 d5 d6 d7 d8
  obtain ⟨d3, d4, d5, d6, d7, d8⟩ := gs_cells HS2.out
  go_wp2_with fail
  clear d3 d4 d5 d6 d7 d8
  go_loopw [41] (fun v41 wr => ∃ D : Nat, v41 = .int .i64 D ∧ D ≤ c.lim ∧ Aside0 (GS c c.N c.M wr (D + 1) (fun _ => False) (D + 1) (fun _ => False)) ∧ Aside0 (Ck c D)) (fun v41 _ => c.lim - (intOf v41).toNat)
  case atStart => exact ⟨0, rfl, by omega, HS2, ⟨fun d hd => by omega⟩⟩
  case round =>
    obtain ⟨D, rfl, hD, HG, HCK⟩ := hrel
    clear HS2
    by_cases hlt : D < c.lim
    · have hvm : valid D (-(D : Int)) := ⟨by omega, by omega, by omega⟩
      have hvp : valid D (D : Int) := ⟨by omega, by omega, by omega⟩
      have hDD : D ≤ 100000 := by omega
      go_upto_region 7 with (go_at_call 78; go_loud (refine (done_b HO.out HG.out hDD hDD rfl rfl).mono ?_; rintro e w' ⟨⟨q, rfl⟩, k, b, rfl, hmt, hap⟩; have HMT := Lib.hid hmt; have HAP := Lib.hid hap; clear hmt hap))
      cases b with
      | true =>
        have hm := HMT.out rfl
        clear HMT HAP
        go_wp2_with (go_at_call 79; go_loud (refine (two_b HO.out (HG.out.below (pw_below_drewN (Below.refl _ _) q)) hDD hDD hm ⟨HCK.out, Or.inl rfl⟩ rfl rfl).mono ?_; rintro e w4 ⟨v4, l4, rfl, hp4⟩; have HP4 := Aside0.mk hp4; clear hp4))
        go_ret
        exact ⟨v4, l4, rfl, HP4.out⟩
      | false =>
        have HA1 := Aside0.mk (HAP.out rfl)
        replace HG := Aside0.mk (HG.out.below (pw_below_drewN (Below.refl _ _) q))
        clear HMT HAP
        obtain ⟨b1, b2, _⟩ := flab_bnd (c := c) (X := c.N) (Y := c.M) hvp (by omega) (by omega)
        go_wp2_with (first | (go_at_call 80; first | (with_reducible_and_instances refine (gs_getF HG.out D (-(D : Int)) (by omega) hvm (by omega)).mono ?_; rintro e w' ⟨rfl, rfl⟩) | (with_reducible_and_instances refine (gs_getF HS1.out D ((D : Int)) (by omega) hvp (by omega)).mono ?_; rintro e w' ⟨rfl, rfl⟩)) | (go_at_call 76; first | (with_reducible_and_instances refine (qf_low HO.out (Nat.le_refl _) (Nat.le_refl _) hDD HG.out).mono ?_; rintro e w2 ⟨rfl, hs⟩; have HS1 := Aside0.mk hs; clear hs) | (with_reducible_and_instances refine (qf_high HO.out (Nat.le_refl _) (Nat.le_refl _) hDD HS1.out).mono ?_; rintro e w2 ⟨rfl, hs⟩; have HS2 := Aside0.mk hs; clear hs)))
        clear HG HS1
        go_loopw [6] (fun v6 wr => ∃ k : Int, v6 = .int .i64 k ∧ -(D : Int) + 1 ≤ k ∧ k ≤ (D : Int) + 1 ∧ Aside0 (valid (D + 1) k) ∧ Aside0 (GS c c.N c.M wr (D + 1) (K3 D k) (D + 1) (fun _ => False))) (fun v6 _ => ((D : Int) + 2 - intOf v6).toNat)
        case atStart => exact ⟨-(D : Int) + 1, rfl, by omega, by omega, ⟨by omega, by omega, by omega⟩, HS2⟩
        case round =>
          obtain ⟨k, rfl, hk1, hk2, HV, HK⟩ := hrel
          clear HS2
          by_cases hk3 : k ≤ (D : Int) - 1
          · have hva : valid D (k - 1) := by obtain ⟨p1, p2, p3⟩ := HV.out; exact ⟨by omega, by omega, by omega⟩
            have hvb : valid D (k + 1) := by obtain ⟨p1, p2, p3⟩ := HV.out; exact ⟨by omega, by omega, by omega⟩
            have HV2 : Aside0 (valid (D + 1) (k + 2)) := ⟨by obtain ⟨p1, p2, p3⟩ := HV.out; exact ⟨by omega, by omega, by omega⟩⟩
            obtain ⟨b3, b4, _⟩ := flab_bnd (c := c) (X := c.N) (Y := c.M) hva (by omega) (by omega)
            by_cases hlt2 : lookF c.E c.N c.M k (flab c.E c.N c.M D (k + 1)) < lookF c.E c.N c.M k (flab c.E c.N c.M D (k - 1) + 1)
            · go_wp2_with (first | (go_at_call 80; first | (with_reducible_and_instances refine (gs_getF HK.out D (k - 1) (by omega) hva (by omega)).mono ?_; rintro e w' ⟨rfl, rfl⟩) | (with_reducible_and_instances refine (gs_getF HS3.out D (k + 1) (by omega) hvb (by omega)).mono ?_; rintro e w' ⟨rfl, rfl⟩)) | (go_at_call 81; first | (with_reducible_and_instances refine (qf_lookv HO.out (Nat.le_refl _) (Nat.le_refl _) hDD hva HK.out).mono ?_; rintro e w2 ⟨rfl, hs⟩; have HS3 := Aside0.mk hs; clear hs) | (with_reducible_and_instances refine (qf_lookh HO.out (Nat.le_refl _) (Nat.le_refl _) hDD hvb HS3.out).mono ?_; rintro e w2 ⟨rfl, hs⟩; have HS4 := Aside0.mk hs; clear hs)) | (go_at_call 76; first | (with_reducible_and_instances refine (qf_mid HO.out (Nat.le_refl _) (Nat.le_refl _) hDD HV.out hk1 hk3 HS4.out (Or.inl ⟨hlt2, rfl⟩)).mono ?_; rintro e w2 ⟨rfl, hs⟩; have HS5 := Aside0.mk hs; clear hs)))
              go_roundw
              case rel => exact ⟨k + 2, by go_num, by omega, by obtain ⟨p1, p2, p3⟩ := HV2.out; omega, HV2, HS5⟩
              case measure => simp [intOf]; omega
            · have hle := Int.not_lt.1 hlt2
              go_wp2_with (first | (go_at_call 80; first | (with_reducible_and_instances refine (gs_getF HK.out D (k - 1) (by omega) hva (by omega)).mono ?_; rintro e w' ⟨rfl, rfl⟩) | (with_reducible_and_instances refine (gs_getF HS3.out D (k + 1) (by omega) hvb (by omega)).mono ?_; rintro e w' ⟨rfl, rfl⟩)) | (go_at_call 81; first | (with_reducible_and_instances refine (qf_lookv HO.out (Nat.le_refl _) (Nat.le_refl _) hDD hva HK.out).mono ?_; rintro e w2 ⟨rfl, hs⟩; have HS3 := Aside0.mk hs; clear hs) | (with_reducible_and_instances refine (qf_lookh HO.out (Nat.le_refl _) (Nat.le_refl _) hDD hvb HS3.out).mono ?_; rintro e w2 ⟨rfl, hs⟩; have HS4 := Aside0.mk hs; clear hs)) | (go_at_call 76; first | (with_reducible_and_instances refine (qf_mid HO.out (Nat.le_refl _) (Nat.le_refl _) hDD HV.out hk1 hk3 HS4.out (Or.inr ⟨hle, rfl⟩)).mono ?_; rintro e w2 ⟨rfl, hs⟩; have HS5 := Aside0.mk hs; clear hs)))
              go_roundw
              case rel => exact ⟨k + 2, by go_num, by omega, by obtain ⟨p1, p2, p3⟩ := HV2.out; omega, HV2, HS5⟩
              case measure => simp [intOf]; omega
          · have hc4 : ∀ k', valid (D + 1) k' → K3 D k k' := fun k' hv => by
              have hv' := hv
              obtain ⟨p1, p2, p3⟩ := hv'
              refine ⟨hv, ?_⟩
              omega
            have HG := Aside0.mk (HK.out.nextF hc4)
            clear HK hc4
            go_upto_region 20 with (go_at_call 78; go_loud (refine (done_b (df := D + 1) (db := D) HO.out HG.out (by omega) (by omega) (by omega) rfl).mono ?_; rintro e w' ⟨⟨q, rfl⟩, k, b, rfl, hmt, hap⟩; have HMT := Lib.hid hmt; have HAP := Lib.hid hap; clear hmt hap))
            cases b with
            | true =>
              have hm := HMT.out rfl
              clear HMT HAP
              go_wp2_with (go_at_call 79; go_loud (refine (two_b (df := D + 1) (db := D) HO.out (HG.out.below (pw_below_drewN (Below.refl _ _) q)) (by omega) (by omega) hm ⟨HCK.out, Or.inr ⟨rfl, HA1.out⟩⟩ (by omega) rfl).mono ?_; rintro e w4 ⟨v4, l4, rfl, hp4⟩; have HP4 := Aside0.mk hp4; clear hp4))
              go_ret
              exact ⟨v4, l4, rfl, HP4.out⟩
            | false =>
              have HA2 := Aside0.mk (HAP.out rfl)
              replace HG := Aside0.mk (HG.out.below (pw_below_drewN (Below.refl _ _) q))
              clear HMT HAP
              obtain ⟨b1, b2, _⟩ := lab_bnd HO.out hvm (by omega)
              go_wp2_with (first | (go_at_call 82; first | (with_reducible_and_instances refine (gs_getB HG.out D (-(D : Int)) (by omega) hvm (by omega)).mono ?_; rintro e w' ⟨rfl, rfl⟩) | (with_reducible_and_instances refine (gs_getB HS1.out D ((D : Int)) (by omega) hvp (by omega)).mono ?_; rintro e w' ⟨rfl, rfl⟩)) | (go_at_call 77; first | (with_reducible_and_instances refine (qb_low HO.out hDD HG.out).mono ?_; rintro e w2 ⟨rfl, hs⟩; have HS1 := Aside0.mk hs; clear hs) | (with_reducible_and_instances refine (qb_high HO.out hDD HS1.out).mono ?_; rintro e w2 ⟨rfl, hs⟩; have HS2 := Aside0.mk hs; clear hs)))
              clear HG HS1
              go_loopw [11] (fun v11 wr => ∃ k : Int, v11 = .int .i64 k ∧ -(D : Int) + 1 ≤ k ∧ k ≤ (D : Int) + 1 ∧ Aside0 (valid (D + 1) k) ∧ Aside0 (GS c c.N c.M wr (D + 2) (fun _ => False) (D + 1) (K3 D k))) (fun v11 _ => ((D : Int) + 2 - intOf v11).toNat)
              case atStart => exact ⟨-(D : Int) + 1, rfl, by omega, by omega, ⟨by omega, by omega, by omega⟩, HS2⟩
              case round =>
                obtain ⟨k, rfl, hk1, hk2, HV, HK⟩ := hrel
                clear HS2
                by_cases hk3 : k ≤ (D : Int) - 1
                · have hva : valid D (k - 1) := by obtain ⟨p1, p2, p3⟩ := HV.out; exact ⟨by omega, by omega, by omega⟩
                  have hvb : valid D (k + 1) := by obtain ⟨p1, p2, p3⟩ := HV.out; exact ⟨by omega, by omega, by omega⟩
                  have HV2 : Aside0 (valid (D + 1) (k + 2)) := ⟨by obtain ⟨p1, p2, p3⟩ := HV.out; exact ⟨by omega, by omega, by omega⟩⟩
                  obtain ⟨b1, b2, _⟩ := lab_bnd HO.out hvb (by omega)
                  by_cases hlt2 : Go.Myers.look c.E c.dl k (lab c.E c.N c.dl D (k - 1)) < Go.Myers.look c.E c.dl k (lab c.E c.N c.dl D (k + 1) - 1)
                  · go_wp2_with (first | (go_at_call 82; first | (with_reducible_and_instances refine (gs_getB HK.out D (k - 1) (by omega) hva (by omega)).mono ?_; rintro e w' ⟨rfl, rfl⟩) | (with_reducible_and_instances refine (gs_getB HS3.out D (k + 1) (by omega) hvb (by omega)).mono ?_; rintro e w' ⟨rfl, rfl⟩)) | (go_at_call 83; first | (with_reducible_and_instances refine (qb_lookv HO.out hDD hva HK.out).mono ?_; rintro e w2 ⟨rfl, hs⟩; have HS3 := Aside0.mk hs; clear hs) | (with_reducible_and_instances refine (qb_lookh HO.out hDD hvb HS3.out).mono ?_; rintro e w2 ⟨rfl, hs⟩; have HS4 := Aside0.mk hs; clear hs)) | (go_at_call 77; first | (with_reducible_and_instances refine (qb_mid HO.out hDD HV.out hk1 hk3 HS4.out (Or.inl ⟨hlt2, rfl⟩)).mono ?_; rintro e w2 ⟨rfl, hs⟩; have HS5 := Aside0.mk hs; clear hs)))
                    go_roundw
                    case rel => exact ⟨k + 2, by go_num, by omega, by obtain ⟨p1, p2, p3⟩ := HV2.out; omega, HV2, HS5⟩
                    case measure => simp [intOf]; omega
                  · have hle := Int.not_lt.1 hlt2
                    go_wp2_with (first | (go_at_call 82; first | (with_reducible_and_instances refine (gs_getB HK.out D (k - 1) (by omega) hva (by omega)).mono ?_; rintro e w' ⟨rfl, rfl⟩) | (with_reducible_and_instances refine (gs_getB HS3.out D (k + 1) (by omega) hvb (by omega)).mono ?_; rintro e w' ⟨rfl, rfl⟩)) | (go_at_call 83; first | (with_reducible_and_instances refine (qb_lookv HO.out hDD hva HK.out).mono ?_; rintro e w2 ⟨rfl, hs⟩; have HS3 := Aside0.mk hs; clear hs) | (with_reducible_and_instances refine (qb_lookh HO.out hDD hvb HS3.out).mono ?_; rintro e w2 ⟨rfl, hs⟩; have HS4 := Aside0.mk hs; clear hs)) | (go_at_call 77; first | (with_reducible_and_instances refine (qb_mid HO.out hDD HV.out hk1 hk3 HS4.out (Or.inr ⟨hle, rfl⟩)).mono ?_; rintro e w2 ⟨rfl, hs⟩; have HS5 := Aside0.mk hs; clear hs)))
                    go_roundw
                    case rel => exact ⟨k + 2, by go_num, by omega, by obtain ⟨p1, p2, p3⟩ := HV2.out; omega, HV2, HS5⟩
                    case measure => simp [intOf]; omega
                · have hc4 : ∀ k', valid (D + 1) k' → K3 D k k' := fun k' hv => by
                    have hv' := hv
                    obtain ⟨p1, p2, p3⟩ := hv'
                    refine ⟨hv, ?_⟩
                    omega
                  have HG := Aside0.mk (HK.out.nextB hc4)
                  clear HK hc4
                  go_wp2_with fail
                  go_roundw
                  case rel => exact ⟨D + 1, by go_num, by omega, HG, ⟨HCK.out.next HA1.out HA2.out⟩⟩
                  case measure => simp [intOf]; omega
    · obtain rfl : D = c.lim := by omega
      obtain ⟨wz, hwz⟩ : ∃ x, x = wr := ⟨wr, rfl⟩
      subst hwz
      obtain ⟨d3, d4, d5, d6, d7, d8⟩ := gs_cells HG.out
      obtain ⟨i0, hi, hz0, hz1, hz2⟩ := info_parts info76
      have hlim2 := HO.out.hlim
      go_wp2_with fail
      go_loopw [14, 15, 16] (fun v14 v15 v16 w9 => ∃ km dm k : Int, v14 = .int .i64 km ∧ v15 = .int .i64 dm ∧ v16 = .int .i64 k ∧ -(c.lim : Int) ≤ k ∧ k ≤ (c.lim : Int) + 2 ∧ wz = w9 ∧ Aside0 (((c.lim : Int) + k) % 2 = 0) ∧ Aside0 ((km = -(c.lim : Int) - 1 ∧ dm = -1 ∧ ∀ k', valid c.lim k' → k' < k → ¬ Rf c c.N c.M k') ∨ (valid c.lim km ∧ Rf c c.N c.M km))) (fun _ _ v16 _ => ((c.lim : Int) + 3 - intOf v16).toNat)
      case atStart => exact ⟨_, _, _, rfl, rfl, rfl, by omega, by omega, rfl, ⟨by omega⟩, ⟨Or.inl ⟨rfl, rfl, fun k' hv h => by obtain ⟨p1, p2, p3⟩ := hv; omega⟩⟩⟩
      case round =>
        obtain ⟨km, dm, k, rfl, rfl, rfl, hk1, hk2, rfl, HP, HR⟩ := hrel
        by_cases hk3 : k ≤ (c.lim : Int)
        · have hvk : valid c.lim k := ⟨hk1, hk3, HP.out⟩
          have HVK := Aside0.mk hvk
          have hg := gs_getF HG.out c.lim k (by omega) hvk (by omega)
          have hb := flab_bnd (c := c) (X := c.N) (Y := c.M) hvk (by omega) (by omega)
          generalize hx : flab c.E c.N c.M c.lim k = x at hg hb
          obtain ⟨b1, b2, b3⟩ := hb
          have HX := Aside0.mk hx
          clear hx hvk
          have HP2 : Aside0 (((c.lim : Int) + (k + 2)) % 2 = 0) := ⟨by have := HP.out; omega⟩
          have hnext : (¬ Rf c c.N c.M k) → ((km = -(c.lim : Int) - 1 ∧ dm = -1 ∧ ∀ k', valid c.lim k' → k' < k + 2 → ¬ Rf c c.N c.M k') ∨ (valid c.lim km ∧ Rf c c.N c.M km)) := fun hn => by
            rcases HR.out with ⟨r1, r2, r3⟩ | r
            · refine Or.inl ⟨r1, r2, fun k' hv hk => ?_⟩
              by_cases e : k' = k
              · rw [e]; exact hn
              · refine r3 k' hv ?_
                obtain ⟨p1, p2, p3⟩ := hv
                have := HP.out
                omega
            · exact Or.inr r
          have HN := Aside0.mk hnext
          clear hnext
          by_cases h1 : dm < x + (x - k)
          · by_cases h2 : x ≤ (c.N : Int)
            · by_cases h3 : x - k ≤ (c.M : Int)
              · have HRk : Aside0 (Rf c c.N c.M k) := ⟨⟨by rw [HX.out]; exact h2, by rw [HX.out]; exact h3⟩⟩
                go_wp2_with (go_at_call 80; refine hg.mono ?_; rintro e w' ⟨rfl, rfl⟩)
                go_roundw
                case rel => exact ⟨k, _, k + 2, rfl, rfl, by go_num, by omega, by omega, by trivial, HP2, ⟨Or.inr ⟨HVK.out, HRk.out⟩⟩⟩
                case measure => simp [intOf]; omega
              · have hn : Aside0 (¬ Rf c c.N c.M k) := ⟨fun h => h3 (by have := h.2; rwa [HX.out] at this)⟩
                go_wp2_with (go_at_call 80; refine hg.mono ?_; rintro e w' ⟨rfl, rfl⟩)
                go_roundw
                case rel => exact ⟨km, dm, k + 2, rfl, rfl, by go_num, by omega, by omega, by trivial, HP2, ⟨HN.out hn.out⟩⟩
                case measure => simp [intOf]; omega
            · have hn : Aside0 (¬ Rf c c.N c.M k) := ⟨fun h => h2 (by have := h.1; rwa [HX.out] at this)⟩
              go_wp2_with (go_at_call 80; refine hg.mono ?_; rintro e w' ⟨rfl, rfl⟩)
              go_roundw
              case rel => exact ⟨km, dm, k + 2, rfl, rfl, by go_num, by omega, by omega, by trivial, HP2, ⟨HN.out hn.out⟩⟩
              case measure => simp [intOf]; omega
          · have hn : Aside0 ((km = -(c.lim : Int) - 1 ∧ dm = -1 ∧ ∀ k', valid c.lim k' → k' < k + 2 → ¬ Rf c c.N c.M k') ∨ (valid c.lim km ∧ Rf c c.N c.M km)) := ⟨by
              rcases HR.out with ⟨r1, r2, r3⟩ | r
              · exfalso; omega
              · exact Or.inr r⟩
            go_wp2_with (go_at_call 80; refine hg.mono ?_; rintro e w' ⟨rfl, rfl⟩)
            go_roundw
            case rel => exact ⟨km, dm, k + 2, rfl, rfl, by go_num, by omega, by omega, by trivial, HP2, hn⟩
            case measure => simp [intOf]; omega
        · have hfin : valid c.lim km ∧ Rf c c.N c.M km := by
            rcases HR.out with ⟨r1, r2, r3⟩ | r
            · exfalso
              obtain ⟨k0, hv0, hr0⟩ := rf_some2 HCK.out
              have hv0' := hv0
              obtain ⟨p1, p2, p3⟩ := hv0'
              exact r3 k0 hv0 (by omega) hr0
            · exact r
          have hkm : -(c.lim : Int) ≤ km := hfin.1.1
          have HFN := Aside0.mk hfin
          clear hfin
          have hl := gs_lcsF HO.out HG.out (Nat.le_refl _) (Nat.le_refl _) c.lim km (by omega) HFN.out.1 (by omega) HFN.out.2.1 HFN.out.2.2
          have hchn := HFN.out
          unfold Rf at hchn
          go_upto_region 45 with (go_at_call 84; go_loud (refine hl.mono ?_; rintro e w1 ⟨v1, l1, rfl, hr1, hb1, hc1⟩; have hbf := flab_bnd (c := c) (X := c.N) (Y := c.M) hchn.1 (by omega) HO.out.hN; have hg1 := chain_good l1 0 0 (Int.le_refl _) (Int.le_refl _) (chain_widen (N := c.N) (M := c.M) l1 0 0 hc1 (by omega) (by omega)); have HL1 : Aside0 (l1.length ≤ 1000000) := ⟨by have := chain_len hc1 (Int.le_refl _) (by omega) (by omega); have := HO.out.hN; omega⟩; have HG1 := Aside0.mk (HG.out.below hb1); have HR1 := Aside0.mk hr1; have HB1 := Aside0.mk hb1; have HGD1 := Aside0.mk hg1; clear hr1 hb1 hc1 hg1 hbf))
          clear hl hchn HFN HR d3 d4 d5 d6 d7 d8
          obtain ⟨d3, d4, d5, d6, d7, d8⟩ := gs_cells HG1.out
          obtain ⟨kf, hkf⟩ : ∃ x, x = km := ⟨km, rfl⟩
          go_wp2_with fail
          go_loopw [14, 20, 21] (fun v14 v20 v21 w9 => ∃ km dm k : Int, v14 = .int .i64 km ∧ v20 = .int .i64 dm ∧ v21 = .int .i64 k ∧ -(c.lim : Int) ≤ k ∧ k ≤ (c.lim : Int) + 2 ∧ w1 = w9 ∧ Aside0 (((c.lim : Int) + k) % 2 = 0) ∧ Aside0 ((dm = 33554432 ∧ ∀ k', valid c.lim k' → k' < k → ¬ Rg c k') ∨ (valid c.lim km ∧ Rg c km))) (fun _ _ v21 _ => ((c.lim : Int) + 3 - intOf v21).toNat)
          case atStart => exact ⟨_, _, _, rfl, rfl, rfl, by omega, by omega, rfl, ⟨by omega⟩, ⟨Or.inl ⟨rfl, fun k' hv h => by obtain ⟨p1, p2, p3⟩ := hv; omega⟩⟩⟩
          case round =>
            obtain ⟨km, dm, k, rfl, rfl, rfl, hk1, hk2, rfl, HP, HR⟩ := hrel
            by_cases hk3 : k ≤ (c.lim : Int)
            · have hvk : valid c.lim k := ⟨hk1, hk3, HP.out⟩
              have HVK := Aside0.mk hvk
              have hg := gs_getB HG1.out c.lim k (by omega) hvk (by omega)
              have hb := lab_bnd HO.out hvk (by omega)
              generalize hx : lab c.E c.N c.dl c.lim k = x at hg hb
              obtain ⟨b1, b2, b3⟩ := hb
              have HX := Aside0.mk hx
              clear hx hvk
              have HP2 : Aside0 (((c.lim : Int) + (k + 2)) % 2 = 0) := ⟨by have := HP.out; omega⟩
              have hnext : (¬ Rg c k) → ((dm = 33554432 ∧ ∀ k', valid c.lim k' → k' < k + 2 → ¬ Rg c k') ∨ (valid c.lim km ∧ Rg c km)) := fun hn => by
                rcases HR.out with ⟨r2, r3⟩ | r
                · refine Or.inl ⟨r2, fun k' hv hk => ?_⟩
                  by_cases e : k' = k
                  · rw [e]; exact hn
                  · refine r3 k' hv ?_
                    obtain ⟨p1, p2, p3⟩ := hv
                    have := HP.out
                    omega
                · exact Or.inr r
              have HN := Aside0.mk hnext
              clear hnext
              by_cases h1 : x + (x - (k + c.dl)) < dm
              · by_cases h2 : 0 ≤ x
                · by_cases h3 : 0 ≤ x - (k + c.dl)
                  · have HRk : Aside0 (Rg c k) := ⟨⟨by rw [HX.out]; exact h2, by rw [HX.out]; exact h3⟩⟩
                    go_wp2_with (go_at_call 82; refine hg.mono ?_; rintro e w' ⟨rfl, rfl⟩)
                    go_roundw
                    case rel => exact ⟨k, _, k + 2, rfl, rfl, by go_num, by omega, by omega, by trivial, HP2, ⟨Or.inr ⟨HVK.out, HRk.out⟩⟩⟩
                    case measure => simp [intOf]; omega
                  · have hn : Aside0 (¬ Rg c k) := ⟨fun h => h3 (by have := h.2; rwa [HX.out] at this)⟩
                    go_wp2_with (go_at_call 82; refine hg.mono ?_; rintro e w' ⟨rfl, rfl⟩)
                    go_roundw
                    case rel => exact ⟨km, dm, k + 2, rfl, rfl, by go_num, by omega, by omega, by trivial, HP2, ⟨HN.out hn.out⟩⟩
                    case measure => simp [intOf]; omega
                · have hn : Aside0 (¬ Rg c k) := ⟨fun h => h2 (by have := h.1; rwa [HX.out] at this)⟩
                  go_wp2_with (go_at_call 82; refine hg.mono ?_; rintro e w' ⟨rfl, rfl⟩)
                  go_roundw
                  case rel => exact ⟨km, dm, k + 2, rfl, rfl, by go_num, by omega, by omega, by trivial, HP2, ⟨HN.out hn.out⟩⟩
                  case measure => simp [intOf]; omega
              · have hn : Aside0 ((dm = 33554432 ∧ ∀ k', valid c.lim k' → k' < k + 2 → ¬ Rg c k') ∨ (valid c.lim km ∧ Rg c km)) := ⟨by
                  rcases HR.out with ⟨r2, r3⟩ | r
                  · exfalso; omega
                  · exact Or.inr r⟩
                go_wp2_with (go_at_call 82; refine hg.mono ?_; rintro e w' ⟨rfl, rfl⟩)
                go_roundw
                case rel => exact ⟨km, dm, k + 2, rfl, rfl, by go_num, by omega, by omega, by trivial, HP2, hn⟩
                case measure => simp [intOf]; omega
            · have hfin : valid c.lim km ∧ Rg c km := by
                rcases HR.out with ⟨r2, r3⟩ | r
                · exfalso
                  obtain ⟨k0, hv0, hr0⟩ := rg_some HCK.out
                  have hv0' := hv0
                  obtain ⟨p1, p2, p3⟩ := hv0'
                  exact r3 k0 hv0 (by omega) hr0
                · exact r
              have hkm : -(c.lim : Int) ≤ km := hfin.1.1
              have HFN := Aside0.mk hfin
              clear hfin
              have hl := gs_lcsB HO.out HG1.out c.lim km (by omega) HFN.out.1 (by omega) HFN.out.2.1 HFN.out.2.2
              have hchn := HFN.out
              unfold Rg at hchn
              go_wp2_with (first | (go_at_call 85; go_loud (refine hl.mono ?_; rintro e w2 ⟨v2, l2, rfl, hr2, hb2, hc2⟩; have hg2 := chain_good l2 _ _ hchn.2.1 hchn.2.2 hc2; have HL2 : Aside0 (l2.length ≤ 1000000) := ⟨by have := chain_len hc2 hchn.2.1 (by have := lab_bnd HO.out hchn.1 (by omega); omega) (by have := lab_bnd HO.out hchn.1 (by omega); omega); have := HO.out.hN; omega⟩; have HR2 := Aside0.mk hr2; have HB2 := Aside0.mk hb2; have HGD2 := Aside0.mk hg2; have HR12 := Aside0.mk (HR1.out.below hb2); clear hr2 hb2 hc2 hg2)) | (at_builtin; go_loud (obtain ⟨A1, p1, rfl⟩ := own_slice HR1.out; obtain ⟨A2, p2, rfl⟩ := own_slice HR2.out; refine wpList_append_seg rfl (.tmp 323) (.tmp 330) 115 115 rfl wz.heap.size 162 i0 _ 3 24 Tryz.underlying115 Tryz.underlying115 hi hz0 hz1 hz2 rfl (by decide) _ l1.length (rowD l1) rfl HR12.out l2.length (rowD l2) (seg_own HR2.out) (fun u hu => rowD_one u hu) ?h63 ?hby ?hba ?_; (case h63 => unfold maxLen; have := HL1.out; have := HL2.out; omega); (case hby => have := HL1.out; have := HL2.out; omega); (case hba => have := HB1.out.size; have := HB2.out.size; omega); intro A3 p3 w3 ho3 hg3 _; have HR3 := Aside0.mk (dg_append ho3); have HG3 := Aside0.mk hg3; clear ho3 hg3)) | (go_at_call 86; go_loud (refine (fix_any w3 wz.heap.size (by have := HB1.out.size; have := HB2.out.size; have := HG3.out.size; omega) _ (l1 ++ l2) HR3.out HO.out.hN HO.out.hM (by rw [List.length_append]; have := HL1.out; have := HL2.out; omega) (fun d hd => (List.mem_append.1 hd).elim (fun h => (HGD1.out d h).1) (fun h => (HGD2.out d h).1))).mono ?_; rintro e w4 ⟨v4, l4, rfl, hr4, hb4, hc4⟩; have HR4 := Aside0.mk hr4; have HB4 := Aside0.mk hb4; have HC4 := Aside0.mk hc4; clear hr4 hb4 hc4)))
              go_ret
              have b12 := HB1.out.trans (HB2.out.mono HB1.out.size)
              exact ⟨v4, l4, rfl, TwA.one HG.out HR4.out ((b12.grown HG3.out b12.size (fun k hk => own_base HR1.out k hk)).trans HB4.out) HC4.out⟩
end Go.Proofs.YtonajgipkpnpoaaGreatDoor.Gr
