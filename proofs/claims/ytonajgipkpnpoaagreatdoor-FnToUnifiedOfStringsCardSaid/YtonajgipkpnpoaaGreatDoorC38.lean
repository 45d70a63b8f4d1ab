/- diffASCII: the differences of two texts of bytes below 128, as edits. diffRunes: the differences of two texts by code points, as edits. Printed by wip/gen/gensu.py. -/
import Derived.Test.YtonajgipkpnpoaaGreatDoorC26
import Derived.Test.YtonajgipkpnpoaaGreatDoorC37
import Derived.Test.YtonajgipkpnpoaaGreatDoorC33
import Derived.Lib.ConvBytes
import Derived.Test.YtonajgipkpnpoaaGreatDoorC36
namespace Go.Proofs.YtonajgipkpnpoaaGreatDoor.Gr
open Go.RowKit Go.Proofs.YtonajgipkpnpoaaGreatDoorW.PrintWords Go.Myers
open Go.Uni (Df difL Bs off toBE DfOk BE InO tot app)
open Go.Proofs.YtonajgipkpnpoaaGreatDoor.Un (mkS rowS rowN rowE)
open Go.Utx (ones ones_flat ones_length ones_ne)
set_option linter.unusedVariables false
theorem off_ones : ∀ (l : Bs) (i : Nat), i ≤ l.length → off (ones l) i = i
  | l, 0, _ => by simp [off]
  | [], i + 1, h => by simp at h
  | b :: t, i + 1, h => by
    have := off_ones t i (by simpa using h)
    unfold off ones at *
    simp only [List.map_cons, List.take_succ_cons, List.flatten_cons, List.length_append, this]
    simp; omega
theorem ones_cut (l : Bs) (i j : Nat) : (((ones l).take j).drop i).flatten = (l.take j).drop i := by
  have : ((ones l).take j).drop i = ones ((l.take j).drop i) := by unfold ones; rw [List.map_drop, List.map_take]
  rw [this, ones_flat]
def DfsPost (W : World) (LA LB : List Bs) (e : Ending) (w' : World) : Prop :=
  ∃ A cap es, e = .returned (.slice A es.length cap) ∧ DfOk LA LB 0 0 es ∧ es.length ≤ LA.length + 1 ∧ es.length ≤ LB.length + 1 ∧ w'.ownsRow W.heap.size 68 3 (.slice A es.length cap) es.length (rowE es) ∧ Below W.heap.size W w'
structure BtS (W : World) (b c : Nat) (l : Bs) : Prop where
  le : l.length ≤ c
  lt : b < W.heap.size
  at_ : ∀ i, i < l.length → W.cell? ⟨b, i, none⟩ = some (.int .u8 ((l.getD i 0).toNat : Int))
theorem BtS.below {W w : World} {b c : Nat} {l : Bs} (h : BtS W b c l) (hb : Below W.heap.size W w) : BtS w b c l :=
  ⟨h.le, Nat.lt_of_lt_of_le h.lt hb.size, fun i hi => (World.cell?_of_block (hb.block _ h.lt)).trans (h.at_ i hi)⟩
theorem BtS.rd {W : World} {b c : Nat} {l : Bs} (h : BtS W b c l) : RdAB W (fun _ => False) (some ⟨b, 0, none⟩) l.length c (fun i => ((l.getD i 0).toNat : Int)) :=
  fun _ => ⟨b, 0, rfl, h.le, fun h => h, h.lt, fun i hi => by rw [Nat.zero_add]; exact h.at_ i hi⟩
theorem BtS.back {w : World} {b rs re c : Nat} {l : Bs} (hc : ∀ i, i < l.length → w.cell? ⟨b, i, none⟩ = some (.int .u8 ((l.getD i 0).toNat : Int))) (hr : re ≤ l.length) :
    (convert 78 9 (.slice (some ⟨b, rs, none⟩) (re - rs) c)).run Tryz.prog w = .ok (.string (mkS ((l.take re).drop rs))) w := by
  have := run_convert_bytes_back (P := Tryz.prog) w 78 9 5 ⟨b, rs, none⟩ c ((l.take re).drop rs) (by kernel_rfl) (by kernel_rfl) (by kernel_rfl) (fun j hj => by
    have hj2 : j < re - rs := by simpa [Nat.min_eq_left hr] using hj
    have hh := hc (rs + j) (by omega)
    rw [show (⟨b, rs, none⟩ : Addr).add j = ⟨b, rs + j, none⟩ by unfold Addr.add; split <;> simp_all, hh]
    simp [List.getD_eq_getElem?_getD, show rs + j < l.length by omega])
  rw [show ((l.take re).drop rs).length = re - rs by simp; omega] at this
  exact this
set_option maxRecDepth 100000 in
theorem diff_bytes (W : World) {A1 A2 : Option Addr} {c1 c2 N M : Nat} {f g : Nat → Int} (ha : RdAB W (fun _ => False) A1 N c1 f) (hb : RdAB W (fun _ => False) A2 M c2 g) (hN : N ≤ 1000000) (hM : M ≤ 1000000) :
    Calls Tryz.prog 51 #[.slice A1 N c1, .slice A2 M c2] W fun e w' => DfPost W (fun i j => f i == g j) N M e w' := by
  have hd := diff_any W _ _ N M (sq_bytes ha hb (by omega) (by omega)) hN hM
  clear ha hb
  go_enter Tryz.func51, Tryz.ntmps51
  go_wp2_with (go_at_call 49; go_loud (refine hd.mono ?_; rintro e w1 ⟨d, l, rfl, h1, h2, h3⟩; have H1 := Aside0.mk h1; have H2 := Aside0.mk h2; have H3 := Aside0.mk h3; clear h1 h2 h3))
  go_ret
  exact ⟨d, l, rfl, H1.out, H2.out, H3.out⟩
theorem info_ed2 : (Tryz.prog.info? 68).map (fun i => (i.zero, i.size, i.bytes)) = some (some (.agg #[.int .i64 0, .int .i64 0, .string ⟨#[]⟩]), 3, 32) := by kernel_rfl
set_option maxRecDepth 100000 in
set_option maxHeartbeats 4000000 in
theorem ascii_any (W : World) (b1 c1 b2 c2 : Nat) (la lb : Bs) (h1 : BtS W b1 c1 la) (h2 : BtS W b2 c2 lb) (ha : la.length ≤ 1000000) (hb0 : lb.length ≤ 1000000) :
    Calls Tryz.prog 37 #[.slice (some ⟨b1, 0, none⟩) la.length c1, .slice (some ⟨b2, 0, none⟩) lb.length c2] W fun e w' => DfsPost W (ones la) (ones lb) e w' := by
  have hdl := diff_bytes W h1.rd h2.rd ha hb0
  have hM2 := h2.le
  have HR2 := Aside0.mk h2
  clear h1 h2
  obtain ⟨iE, hiE, hzE0, hzE1, hzE2⟩ := info_parts info_ed2
  go_enter Tryz.func37, Tryz.ntmps37
  go_upto_region 2 with (go_at_call 51; go_loud (refine hdl.mono ?_; rintro e w3 ⟨d, l, rfl, h1, h2, h3⟩))
  obtain ⟨D, hD⟩ : ∃ D, D = difL la.length lb.length l 0 0 := ⟨_, rfl⟩
  rw [← hD] at h2
  obtain ⟨AD, cd, rfl⟩ := own_slice h2
  have hin : ∀ x ∈ D, 0 ≤ x.s ∧ x.s ≤ x.e ∧ x.e ≤ la.length ∧ 0 ≤ x.rs ∧ x.rs ≤ x.re ∧ x.re ≤ lb.length := by
    rw [hD]; exact difL_in l 0 0 (Int.le_refl _) (Int.le_refl _) (by omega) (by omega) h1
  have hok : DfOk (ones la) (ones lb) 0 0 (D.map (toBE (ones la) (ones lb))) := by
    rw [hD]
    have := Go.Uni.difL_ok (A := ones la) (B := ones lb) (E := fun i j => ((la.getD i 0).toNat : Int) == ((lb.getD j 0).toNat : Int)) (ones_ne la) (ones_ne lb) (fun i j hi hj he => by
      rw [ones_length] at hi hj
      have he2 : la.getD i 0 = lb.getD j 0 := by
        have : (la.getD i 0).toNat = (lb.getD j 0).toNat := by
          have he3 : ((la.getD i 0).toNat : Int) = ((lb.getD j 0).toNat : Int) := by simpa using he
          exact Int.ofNat.inj he3
        exact UInt8.toNat_inj.1 this
      unfold ones
      rw [List.getElem?_map, List.getElem?_map, List.getElem?_eq_getElem hi, List.getElem?_eq_getElem hj]
      simpa [List.getD_eq_getElem?_getD, hi, hj] using he2) l 0 0 (Nat.zero_le _) (Nat.zero_le _) (by rw [ones_length, ones_length]; exact h1)
    rw [ones_length, ones_length] at this
    exact this
  have hDm : D.length ≤ lb.length + 1 := by
    have h5 := Go.Uni.difL_len la.length lb.length l 0 0
    rw [← hD] at h5
    have h6 := chain_end l 0 0 h1
    have h7 := chain_le l 0 0 (by omega) (by omega) h1
    omega
  have hDn : D.length ≤ la.length + 1 := by
    have h5 := Go.Uni.difL_len la.length lb.length l 0 0
    rw [← hD] at h5
    have := chain_len h1 (Int.le_refl _) (by omega) (by omega)
    omega
  have hby : (iE.bytes : Int) * (D.length : Int) ≤ 281474976710656 := by rw [hzE2]; omega
  have hmk : ∀ W' : World, (Instr.makeSlice 53 (.int .i64 (D.length : Int)) (.int .i64 (D.length : Int))).run Tryz.prog W' = .ok (.slice (some ⟨W'.heap.size, 0, none⟩) D.length D.length) (W'.alloc (.cells (madeCells #[.int .i64 0, .int .i64 0, .string ⟨#[]⟩] (D.length * 3)) 68)) := fun W' => by
    have := run_make (P := Tryz.prog) W' 53 68 iE _ Tryz.underlying53 hiE hzE0 .i64 .i64 (D.length : Int) D.length (by omega) (Int.le_refl _) hby (by omega)
    rw [hzE1, show (Value.agg #[.int .i64 0, .int .i64 0, .string ⟨#[]⟩]).cells = #[.int .i64 0, .int .i64 0, .string ⟨#[]⟩] by kernel_rfl] at this
    simpa using this
  have HR23 := Aside0.mk (HR2.out.below h3)
  have HDR := Aside0.mk h2
  have HB3 := Aside0.mk h3
  have HOK := Aside0.mk hok
  have HIN := Aside0.mk hin
  have hst : LnS w3 (w3.alloc (.cells (madeCells #[.int .i64 0, .int .i64 0, .string ⟨#[]⟩] (D.length * 3)) 68)) w3.heap.size D.length [] := ⟨below_alloc (Below.refl _ _) _, Nat.le_refl _, _, new_obj w3 _, size_madeCells _ _, by simp; rfl⟩
  have HST := Aside0.mk hst
  clear hdl h1 h2 h3 hD hok hin hst HR2
  go_wp2_with fail
  clear hmk
  go_loopw [17] (fun v17 wr => ∃ i : Nat, v17 = .int .i64 i ∧ i ≤ D.length ∧ Aside0 (LnS w3 wr w3.heap.size D.length ((D.take i).map (toBE (ones la) (ones lb))))) (fun v17 _ => D.length - (intOf v17).toNat)
  case atStart => exact ⟨0, rfl, Nat.zero_le _, HST⟩
  case round =>
    obtain ⟨i, rfl, hi1, HS⟩ := hrel
    clear HST
    by_cases hlt : i < D.length
    · obtain ⟨x, hx⟩ : ∃ x, D[i]? = some x := ⟨_, List.getElem?_eq_getElem hlt⟩
      have hb := HIN.out x (List.mem_of_getElem? hx)
      obtain ⟨s, e, rs, re⟩ := x
      dsimp only at hb
      obtain ⟨s, rfl⟩ : ∃ m : Nat, s = m := ⟨s.toNat, by omega⟩
      obtain ⟨e, rfl⟩ : ∃ m : Nat, e = m := ⟨e.toNat, by omega⟩
      obtain ⟨rs, rfl⟩ : ∃ m : Nat, rs = m := ⟨rs.toNat, by omega⟩
      obtain ⟨re, rfl⟩ : ∃ m : Nat, re = m := ⟨re.toNat, by omega⟩
      obtain ⟨gd, rfl⟩ : ∃ g, AD = some ⟨g, 0, none⟩ := by
        rcases HDR.out.2 with ⟨_, h1⟩ | ⟨g, cap', cur, hv, _⟩
        · omega
        · injection hv with hv
          exact ⟨g, hv⟩
      have hdw := pw_own_below HDR.out HS.out.bel
      have hg := rowF_get D i _ hx
      obtain ⟨k0, -⟩ := own_at hdw _ _ (hg 0 _ rfl)
      obtain ⟨k1, -⟩ := own_at hdw _ _ (hg 1 _ rfl)
      obtain ⟨k2, -⟩ := own_at hdw _ _ (hg 2 _ rfl)
      obtain ⟨k3, -⟩ := own_at hdw _ _ (hg 3 _ rfl)
      rw [Nat.add_zero] at k0
      have HX := Lib.hid hx
      clear hdw hg hx
      go_upto_region 6 with fail
      obtain ⟨wb, hwb⟩ : ∃ x, x = wr.alloc (.cells #[.int .i64 (s : Int), .int .i64 (e : Int), .int .i64 (rs : Int), .int .i64 (re : Int)] 74) := ⟨_, rfl⟩
      have hbwb : Below wr.heap.size wr wb := by rw [hwb]; exact below_alloc (Below.refl _ _) _
      have hdb : wb.heap[wr.heap.size]? = some (.cells #[.int .i64 (s : Int), .int .i64 (e : Int), .int .i64 (rs : Int), .int .i64 (re : Int)] 74 (0, 0)) := by rw [hwb]; exact new_obj _ _
      have HSB := Aside0.mk (HS.out.below hbwb)
      rw [← hwb]
      have hel : ((D.take i).map (toBE (ones la) (ones lb))).length = i := by rw [List.length_map, List.length_take]; omega
      obtain ⟨ES, hES⟩ : ∃ x, x = (D.take i).map (toBE (ones la) (ones lb)) := ⟨_, rfl⟩
      rw [← hES] at hel HSB
      have hne1 : wr.heap.size ≠ w3.heap.size := by have := HS.out.cells (i := i * 3) (by omega); obtain ⟨⟨_, hh⟩, _⟩ := this; have := World.block_lt_of_cell? wr _ hh; simp at this; omega
      have hne2 : b2 ≠ w3.heap.size := by have := HR23.out.lt; omega
      have hbt := (HR23.out.below HS.out.bel).below hbwb
      obtain ⟨b0, b1_, b2_, b3, b4, b5_⟩ := hb
      have hcr0 : re ≤ lb.length := by omega
      obtain ⟨S0, hS0⟩ : ∃ x, x = mkS ((lb.take re).drop rs) := ⟨_, rfl⟩
      have hcv : ∀ cc w', KB w3 wb w3.heap.size D.length ES w' → (convert 78 9 (.slice (some ⟨b2, rs, none⟩) (re - rs) cc)).run Tryz.prog w' = .ok (.string S0) w' := fun cc w' hb' => by
        rw [hS0]
        exact BtS.back (fun i hi => hb'.cell (hbt.at_ i hi) hne2) hcr0
      have hcv0 : ∀ w', re = rs → (convert 78 9 (.slice (some ⟨b2, 0, none⟩) 0 0)).run Tryz.prog w' = .ok (.string S0) w' := fun w' he => by
        rw [hS0, List.drop_eq_nil_of_le (by simp; omega)]
        exact BtS.back (l := []) (rs := 0) (re := 0) (fun i hi => by simp at hi) (Nat.le_refl _)
      have HES := Lib.hid hES
      have HEL := Lib.hid hel
      have L0 : i * 3 < D.length * 3 := by omega
      have L1 : i * 3 + 1 < D.length * 3 := by omega
      have L2 : i * 3 + 2 < D.length * 3 := by omega
      obtain ⟨⟨z0, t0⟩, g0⟩ := HSB.out.cells L0
      obtain ⟨⟨z1, t1⟩, g1⟩ := HSB.out.cells L1
      obtain ⟨⟨z2, t2⟩, g2⟩ := HSB.out.cells L2
      have m0 : wb.cell? ⟨wr.heap.size, 0, none⟩ = some (.int .i64 (s : Int)) := (blk_cell hdb 0).trans rfl
      have m1 : wb.cell? ⟨wr.heap.size, 1, none⟩ = some (.int .i64 (e : Int)) := (blk_cell hdb 1).trans rfl
      have m2 : wb.cell? ⟨wr.heap.size, 2, none⟩ = some (.int .i64 (rs : Int)) := (blk_cell hdb 2).trans rfl
      have m3 : wb.cell? ⟨wr.heap.size, 3, none⟩ = some (.int .i64 (re : Int)) := (blk_cell hdb 3).trans rfl
      have hkb := KB.start HSB.out
      have hkb1 := hkb.drew
      have i1 : ((re : Nat) : Int) ≤ (c2 : Int) := by omega
      have i2 : ((rs : Nat) : Int) ≤ (re : Int) := by omega
      have i7 : re ≤ c2 := by omega
      have i8 : rs ≤ re := by omega
      have hfin : ∀ w', w' = (((wb.drew.setCell ⟨w3.heap.size, i * 3, none⟩ (.int .i64 (s : Int))).setCell ⟨w3.heap.size, i * 3 + 1, none⟩ (.int .i64 (e : Int))).setCell ⟨w3.heap.size, i * 3 + 2, none⟩ (.string S0)) → Aside0 (LnS w3 w' w3.heap.size D.length ((D.take (i + 1)).map (toBE (ones la) (ones lb)))) := fun w' hw => by
        have hput := (HSB.out.below (pw_below_drewN (Below.refl _ _) 1)).put ⟨s, e, (lb.take re).drop rs⟩ (by rw [hel]; exact hlt)
        rw [hel, hES] at hput
        have het : (D.take (i + 1)).map (toBE (ones la) (ones lb)) = (D.take i).map (toBE (ones la) (ones lb)) ++ [⟨s, e, (lb.take re).drop rs⟩] := by
          have hx2 := List.getElem?_eq_some_iff.1 HX.out
          rw [List.take_succ_eq_append_getElem hlt, List.map_append, hx2.2]
          show _ ++ [(⟨off (ones la) s, off (ones la) e, (((ones lb).take re).drop rs).flatten⟩ : BE)] = _
          rw [ones_cut, off_ones _ _ (by omega), off_ones _ _ (by omega)]
        rw [het, hw, hS0]
        exact ⟨hput⟩
      by_cases hcr : c2 = rs
      · have hre : re = c2 := by omega
        have hrs : rs = c2 := hcr.symm
        have q0 := hcv0 wb (by omega)
        have q1 := hcv0 wb.drew (by omega)
        subst hre hrs
        clear hcv hcv0 i1 i2 i7 i8 hcr hS0 hES hel hbt hdb hwb L0 L1 L2 hkb hkb1
        go_region
        all_goals go_wp2_with fail
        all_goals go_roundw
        case rel => exact ⟨i + 1, by go_num, by omega, hfin _ rfl⟩
        case measure => simp [intOf]; omega
      · have q0 := hcv (c2 - rs) wb hkb
        have q1 := hcv (c2 - rs) wb.drew hkb1
        have hcr2 : (c2 = rs) = False := by simpa using hcr
        clear hcv hcv0 hS0 hES hel hbt hdb hwb L0 L1 L2 hkb hkb1
        go_region
        all_goals go_wp2_with fail
        all_goals go_roundw
        case rel => exact ⟨i + 1, by go_num, by omega, hfin _ rfl⟩
        case measure => simp [intOf]; omega
    · obtain rfl : i = D.length := by omega
      have hown := HS.out.own (by rw [List.length_map, List.take_length]) (by omega)
      rw [List.take_length] at hown
      have hml : (D.map (toBE (ones la) (ones lb))).length = D.length := List.length_map ..
      have hb3 := HB3.out.trans (HS.out.bel.mono HB3.out.size)
      have HOW := Aside0.mk hown
      have HBB := Aside0.mk hb3
      have HML := Lib.hid hml
      clear hown hb3 hml
      go_wp2_with fail
      go_ret
      refine ⟨some ⟨w3.heap.size, 0, none⟩, D.length, D.map (toBE (ones la) (ones lb)), by rw [HML.out]; rfl, HOK.out, ?_, ?_, ?_, HBB.out⟩
      · rw [HML.out, ones_length]; exact hDn
      · rw [HML.out, ones_length]; exact hDm
      · rw [HML.out]; exact own_base_mono HOW.out HB3.out.size
end Go.Proofs.YtonajgipkpnpoaaGreatDoor.Gr
namespace Go.Proofs.YtonajgipkpnpoaaGreatDoor.Gr
open Go.RowKit Go.Proofs.YtonajgipkpnpoaaGreatDoorW.PrintWords Go.Myers
open Go.Uni (Df difL Bs off toBE DfOk BE InO tot app)
open Go.Proofs.YtonajgipkpnpoaaGreatDoor.Un (mkS rowS rowN rowE runesLen_any)
open Go.Utx (enc okR enc_ne enc_len4 runesBytes_enc)
set_option linter.unusedVariables false
def prs (rs : List Nat) : List Bs := rs.map enc
theorem prs_length (rs : List Nat) : (prs rs).length = rs.length := List.length_map ..
theorem prs_ne (rs : List Nat) : ∀ x ∈ prs rs, x ≠ [] := by
  intro x hx
  unfold prs at hx
  obtain ⟨r, _, rfl⟩ := List.mem_map.1 hx
  exact enc_ne r
theorem prs_cut (l : List Nat) (i j : Nat) : ((prs l).take j).drop i = prs ((l.take j).drop i) := by unfold prs; rw [List.map_drop, List.map_take]
theorem prs_len : ∀ rs : List Nat, (prs rs).flatten.length ≤ 4 * rs.length
  | [] => Nat.le_refl _
  | r :: t => by
    have := prs_len t
    have := enc_len4 r
    unfold prs at *
    simp only [List.map_cons, List.flatten_cons, List.length_append, List.length_cons]
    omega
theorem off_prs_le (rs : List Nat) (i : Nat) : off (prs rs) i ≤ 4 * rs.length := by
  have h := prs_len (rs.take i)
  have h2 : (rs.take i).length ≤ rs.length := by rw [List.length_take]; omega
  have h3 : off (prs rs) i = (prs (rs.take i)).flatten.length := by unfold off prs; rw [List.map_take]
  omega
theorem off_prs_add (rs : List Nat) {i j : Nat} (h : i ≤ j) : off (prs rs) j = off (prs rs) i + (prs ((rs.take j).drop i)).flatten.length := by
  unfold off
  rw [← prs_cut]
  have : (prs rs).take j = (prs rs).take i ++ ((prs rs).take j).drop i := by
    have := List.take_append_drop i ((prs rs).take j)
    rw [List.take_take, Nat.min_eq_left h] at this
    exact this.symm
  conv => lhs; rw [this]
  rw [List.flatten_append, List.length_append]
theorem difL_ord {E : Nat → Nat → Bool} {N M : Nat} : ∀ (l : List Dg) (pa pb : Int), Chain E N M l pa pb → (∀ d ∈ difL N M l pa pb, pa ≤ d.s) ∧ (difL N M l pa pb).Pairwise (fun x y => x.e ≤ y.s)
  | [], pa, pb, _ => by
    rw [difL_nil]
    split
    · exact ⟨fun d hd => by simp at hd; subst hd; exact Int.le_refl _, List.pairwise_singleton ..⟩
    · exact ⟨fun d hd => by simp at hd, List.Pairwise.nil⟩
  | p :: t, pa, pb, hc => by
    obtain ⟨c1, c2, c3, c4, c5, _, c7⟩ := hc
    obtain ⟨h1, h2⟩ := difL_ord t _ _ c7
    rw [difL_cons]
    split
    · refine ⟨fun d hd => ?_, ?_⟩
      · rcases List.mem_cons.1 hd with rfl | hd
        · exact Int.le_refl _
        · have := h1 d hd; omega
      · exact List.pairwise_cons.2 ⟨fun d hd => by have := h1 d hd; dsimp only; omega, h2⟩
    · refine ⟨fun d hd => ?_, h2⟩
      have := h1 d (by simpa using hd)
      omega
structure RnS (W : World) (b c : Nat) (l : List Nat) : Prop where
  le : l.length ≤ c
  lt : b < W.heap.size
  at_ : ∀ i, i < l.length → W.cell? ⟨b, i, none⟩ = some (.int .i32 ((l.getD i 0 : Nat) : Int))
theorem RnS.below {W w : World} {b c : Nat} {l : List Nat} (h : RnS W b c l) (hb : Below W.heap.size W w) : RnS w b c l :=
  ⟨h.le, Nat.lt_of_lt_of_le h.lt hb.size, fun i hi => (World.cell?_of_block (hb.block _ h.lt)).trans (h.at_ i hi)⟩
theorem RnS.rd {W : World} {b c : Nat} {l : List Nat} (h : RnS W b c l) : RdAR W (fun _ => False) (some ⟨b, 0, none⟩) l.length c (fun i => ((l.getD i 0 : Nat) : Int)) :=
  fun _ => ⟨b, 0, rfl, h.le, fun h => h, h.lt, fun i hi => by rw [Nat.zero_add]; exact h.at_ i hi⟩
theorem RnS.cut {w : World} {b c lo hi : Nat} {l : List Nat} (h : RnS w b c l) (hr : hi ≤ l.length) (j : Nat) (hj : j < ((l.take hi).drop lo).length) : w.cell? ((⟨b, lo, none⟩ : Addr).add j) = some (.int .i32 ((((l.take hi).drop lo)[j] : Nat) : Int)) := by
  have hj2 : j < hi - lo := by simpa [Nat.min_eq_left hr] using hj
  have hh := h.at_ (lo + j) (by omega)
  rw [show (⟨b, lo, none⟩ : Addr).add j = ⟨b, lo + j, none⟩ by unfold Addr.add; split <;> simp_all, hh]
  simp [List.getD_eq_getElem?_getD, show lo + j < l.length by omega]
theorem RnS.back {w : World} {b rs re c cc : Nat} {l : List Nat} (h : RnS w b c l) (hr : re ≤ l.length) (hok : ∀ r ∈ l, okR r) :
    (convert 80 9 (.slice (some ⟨b, rs, none⟩) (re - rs) cc)).run Tryz.prog w = .ok (.string (mkS (prs ((l.take re).drop rs)).flatten)) w := by
  have hl : ((l.take re).drop rs).length = re - rs := by simp; omega
  have := run_convert_runes (P := Tryz.prog) w 80 9 21 ⟨b, rs, none⟩ (re - rs) cc (((l.take re).drop rs).map fun r : Nat => (r : Int)) (by rw [List.length_map, hl]; exact Nat.le_refl _) (by kernel_rfl) (by kernel_rfl) (by kernel_rfl) (fun j hj => by
    rw [List.length_map] at hj
    rw [h.cut hr j hj]
    simp only [List.getD_eq_getElem?_getD, List.getElem?_map, List.getElem?_eq_getElem hj]
    rfl)
  rw [List.take_of_length_le (by rw [List.length_map, hl]; exact Nat.le_refl _), runesBytes_enc _ (fun r hr => hok r (List.mem_of_mem_take (List.mem_of_mem_drop hr)))] at this
  exact this
theorem back_nil (w : World) (A : Option Addr) (cc : Nat) : (convert 80 9 (.slice A 0 cc)).run Tryz.prog w = .ok (.string (mkS [])) w := by
  cases A with
  | none => exact run_convert_runes_nil (P := Tryz.prog) w 80 9 21 0 cc (by kernel_rfl) (by kernel_rfl) (by kernel_rfl)
  | some a => exact run_convert_runes (P := Tryz.prog) w 80 9 21 a 0 cc [] (Nat.le_refl _) (by kernel_rfl) (by kernel_rfl) (by kernel_rfl) (fun j hj => by simp at hj)
theorem RnS.len {w : World} {b lo hi c cc : Nat} {l : List Nat} (h : RnS w b c l) (hr : hi ≤ l.length) (hlo : lo ≤ hi) (hok : ∀ r ∈ l, okR r) (hl : l.length ≤ 1000000) (hcc : hi - lo ≤ cc) :
    Calls Tryz.prog 53 #[.slice (some ⟨b, lo, none⟩) (hi - lo) cc] w fun e w' => e = .returned (.int .i64 ((prs ((l.take hi).drop lo)).flatten.length : Int)) ∧ Below w.heap.size w w' := by
  have hl2 : ((l.take hi).drop lo).length = hi - lo := by simp; omega
  have := runesLen_any ((l.take hi).drop lo) (by omega) (fun r hr => hok r (List.mem_of_mem_take (List.mem_of_mem_drop hr))) (some ⟨b, lo, none⟩) cc w ⟨by simp, by omega, fun _ => ⟨_, rfl, fun j p hp => by
    rw [List.getElem?_map] at hp
    obtain ⟨q, hq, rfl⟩ := Option.map_eq_some_iff.1 hp
    obtain ⟨hj, hq2⟩ := List.getElem?_eq_some_iff.1 hq
    refine ⟨[.int .i32 (q : Int)], rfl, rfl, fun i u hu => ?_⟩
    obtain rfl : i = 0 := by
      have := (List.getElem?_eq_some_iff.1 hu).1
      simpa using this
    have hu2 : Value.int .i32 (q : Int) = u := by simpa using hu
    show w.cell? ((⟨b, lo, none⟩ : Addr).add (j * 1 + 0)) = _
    rw [Nat.mul_one, Nat.add_zero, h.cut hr j hj, hq2, hu2]⟩⟩ (by omega)
  rw [hl2] at this
  exact this
theorem len_nil (w : World) (A : Option Addr) (cc : Nat) : Calls Tryz.prog 53 #[.slice A 0 cc] w fun e w' => e = .returned (.int .i64 ((0 : Nat) : Int)) ∧ Below w.heap.size w w' :=
  runesLen_any [] (Nat.zero_le _) (fun r hr => by simp at hr) A cc w ⟨rfl, by decide, fun h => by simp at h⟩ (Nat.zero_le _)
set_option maxRecDepth 100000 in
theorem diff_runes_ (W : World) {A1 A2 : Option Addr} {c1 c2 N M : Nat} {f g : Nat → Int} (ha : RdAR W (fun _ => False) A1 N c1 f) (hb : RdAR W (fun _ => False) A2 M c2 g) (hN : N ≤ 1000000) (hM : M ≤ 1000000) :
    Calls Tryz.prog 52 #[.slice A1 N c1, .slice A2 M c2] W fun e w' => DfPost W (fun i j => f i == g j) N M e w' := by
  have hd := diff_any W _ _ N M (sq_runes ha hb (by omega) (by omega)) hN hM
  clear ha hb
  go_enter Tryz.func52, Tryz.ntmps52
  go_wp2_with (go_at_call 49; go_loud (refine hd.mono ?_; rintro e w1 ⟨d, l, rfl, h1, h2, h3⟩; have H1 := Aside0.mk h1; have H2 := Aside0.mk h2; have H3 := Aside0.mk h3; clear h1 h2 h3))
  go_ret
  exact ⟨d, l, rfl, H1.out, H2.out, H3.out⟩
def lastE (D : List Df) : Nat → Nat
  | 0 => 0
  | i + 1 => match D[i]? with | some d => d.e.toNat | none => 0
theorem lastE_succ {D : List Df} {i : Nat} {d : Df} (h : D[i]? = some d) : lastE D (i + 1) = d.e.toNat := by
  show (match D[i]? with | some d => d.e.toNat | none => 0) = _
  rw [h]
set_option maxRecDepth 100000 in
set_option maxHeartbeats 8000000 in
theorem runes_any (W : World) (b1 c1 b2 c2 : Nat) (la lb : List Nat) (h1 : RnS W b1 c1 la) (h2 : RnS W b2 c2 lb) (ha : la.length ≤ 1000000) (hb0 : lb.length ≤ 1000000) (hoka : ∀ r ∈ la, okR r) (hokb : ∀ r ∈ lb, okR r) :
    Calls Tryz.prog 38 #[.slice (some ⟨b1, 0, none⟩) la.length c1, .slice (some ⟨b2, 0, none⟩) lb.length c2] W fun e w' => DfsPost W (prs la) (prs lb) e w' := by
  have hdl := diff_runes_ W h1.rd h2.rd ha hb0
  have hM1 := h1.le
  have hM2 := h2.le
  have HR1 := Aside0.mk h1
  have HR2 := Aside0.mk h2
  have HOKA := Aside0.mk hoka
  have HOKB := Aside0.mk hokb
  clear h1 h2 hoka hokb
  obtain ⟨iE, hiE, hzE0, hzE1, hzE2⟩ := info_parts info_ed2
  go_enter Tryz.func38, Tryz.ntmps38
  go_upto_region 2 with (go_at_call 52; go_loud (refine hdl.mono ?_; rintro e w3 ⟨d, l, rfl, h1, h2, h3⟩))
  obtain ⟨D, hD⟩ : ∃ D, D = difL la.length lb.length l 0 0 := ⟨_, rfl⟩
  rw [← hD] at h2
  obtain ⟨AD, cd, rfl⟩ := own_slice h2
  have hin : ∀ x ∈ D, 0 ≤ x.s ∧ x.s ≤ x.e ∧ x.e ≤ la.length ∧ 0 ≤ x.rs ∧ x.rs ≤ x.re ∧ x.re ≤ lb.length := by
    rw [hD]; exact difL_in l 0 0 (Int.le_refl _) (Int.le_refl _) (by omega) (by omega) h1
  have hok : DfOk (prs la) (prs lb) 0 0 (D.map (toBE (prs la) (prs lb))) := by
    rw [hD]
    have := Go.Uni.difL_ok (A := prs la) (B := prs lb) (E := fun i j => ((la.getD i 0 : Nat) : Int) == ((lb.getD j 0 : Nat) : Int)) (prs_ne la) (prs_ne lb) (fun i j hi hj he => by
      rw [prs_length] at hi hj
      have he2 : la.getD i 0 = lb.getD j 0 := by
        have he3 : ((la.getD i 0 : Nat) : Int) = ((lb.getD j 0 : Nat) : Int) := by simpa using he
        exact Int.ofNat.inj he3
      unfold prs
      have h5 : la[i]? = lb[j]? := by
        rw [List.getElem?_eq_getElem hi, List.getElem?_eq_getElem hj]
        simpa [List.getD_eq_getElem?_getD, hi, hj] using he2
      rw [List.getElem?_map, List.getElem?_map, h5]) l 0 0 (Nat.zero_le _) (Nat.zero_le _) (by rw [prs_length, prs_length]; exact h1)
    rw [prs_length, prs_length] at this
    exact this
  have hDm : D.length ≤ lb.length + 1 := by
    have h5 := Go.Uni.difL_len la.length lb.length l 0 0
    rw [← hD] at h5
    have h6 := chain_end l 0 0 h1
    have h7 := chain_le l 0 0 (by omega) (by omega) h1
    omega
  have hDn : D.length ≤ la.length + 1 := by
    have h5 := Go.Uni.difL_len la.length lb.length l 0 0
    rw [← hD] at h5
    have := chain_len h1 (Int.le_refl _) (by omega) (by omega)
    omega
  have hby : (iE.bytes : Int) * (D.length : Int) ≤ 281474976710656 := by rw [hzE2]; omega
  have hmk : ∀ W' : World, (Instr.makeSlice 53 (.int .i64 (D.length : Int)) (.int .i64 (D.length : Int))).run Tryz.prog W' = .ok (.slice (some ⟨W'.heap.size, 0, none⟩) D.length D.length) (W'.alloc (.cells (madeCells #[.int .i64 0, .int .i64 0, .string ⟨#[]⟩] (D.length * 3)) 68)) := fun W' => by
    have := run_make (P := Tryz.prog) W' 53 68 iE _ Tryz.underlying53 hiE hzE0 .i64 .i64 (D.length : Int) D.length (by omega) (Int.le_refl _) hby (by omega)
    rw [hzE1, show (Value.agg #[.int .i64 0, .int .i64 0, .string ⟨#[]⟩]).cells = #[.int .i64 0, .int .i64 0, .string ⟨#[]⟩] by kernel_rfl] at this
    simpa using this
  have HR13 := Aside0.mk (HR1.out.below h3)
  have hord := (difL_ord l 0 0 h1).2
  rw [← hD] at hord
  have HORD := Aside0.mk hord
  have HR23 := Aside0.mk (HR2.out.below h3)
  have HDR := Aside0.mk h2
  have HB3 := Aside0.mk h3
  have HOK := Aside0.mk hok
  have HIN := Aside0.mk hin
  have hst : LnS w3 (w3.alloc (.cells (madeCells #[.int .i64 0, .int .i64 0, .string ⟨#[]⟩] (D.length * 3)) 68)) w3.heap.size D.length [] := ⟨below_alloc (Below.refl _ _) _, Nat.le_refl _, _, new_obj w3 _, size_madeCells _ _, by simp; rfl⟩
  have HST := Aside0.mk hst
  clear hdl h1 h2 h3 hD hok hin hst HR1 HR2 hord
  go_wp2_with fail
  clear hmk
  go_loopw [7, 8, 20] (fun v7 v8 v20 wr => ∃ i : Nat, v20 = .int .i64 i ∧ i ≤ D.length ∧ v7 = .int .i64 (lastE D i : Int) ∧ v8 = .int .i64 (off (prs la) (lastE D i) : Int) ∧ Aside0 (LnS w3 wr w3.heap.size D.length ((D.take i).map (toBE (prs la) (prs lb))))) (fun _ _ v20 _ => D.length - (intOf v20).toNat)
  case atStart => exact ⟨0, rfl, Nat.zero_le _, rfl, by simp [lastE, off], HST⟩
  case round =>
    obtain ⟨i, rfl, hi1, rfl, rfl, HS⟩ := hrel
    clear HST
    by_cases hlt : i < D.length
    · obtain ⟨x, hx⟩ : ∃ x, D[i]? = some x := ⟨_, List.getElem?_eq_getElem hlt⟩
      have hb := HIN.out x (List.mem_of_getElem? hx)
      obtain ⟨s, e, rs, re⟩ := x
      dsimp only at hb
      obtain ⟨s, rfl⟩ : ∃ m : Nat, s = m := ⟨s.toNat, by omega⟩
      obtain ⟨e, rfl⟩ : ∃ m : Nat, e = m := ⟨e.toNat, by omega⟩
      obtain ⟨rs, rfl⟩ : ∃ m : Nat, rs = m := ⟨rs.toNat, by omega⟩
      obtain ⟨re, rfl⟩ : ∃ m : Nat, re = m := ⟨re.toNat, by omega⟩
      obtain ⟨gd, rfl⟩ : ∃ g, AD = some ⟨g, 0, none⟩ := by
        rcases HDR.out.2 with ⟨_, h1⟩ | ⟨g, cap', cur, hv, _⟩
        · omega
        · injection hv with hv
          exact ⟨g, hv⟩
      have hdw := pw_own_below HDR.out HS.out.bel
      have hg := rowF_get D i _ hx
      obtain ⟨k0, -⟩ := own_at hdw _ _ (hg 0 _ rfl)
      obtain ⟨k1, -⟩ := own_at hdw _ _ (hg 1 _ rfl)
      obtain ⟨k2, -⟩ := own_at hdw _ _ (hg 2 _ rfl)
      obtain ⟨k3, -⟩ := own_at hdw _ _ (hg 3 _ rfl)
      rw [Nat.add_zero] at k0
      have hlast : lastE D i ≤ s := by
        cases i with
        | zero => exact Nat.zero_le _
        | succ j =>
          have hj : j < D.length := by omega
          have h5 := List.pairwise_iff_getElem.1 HORD.out j (j + 1) hj hlt (Nat.lt_succ_self _)
          have h6 := (List.getElem?_eq_some_iff.1 hx).2
          rw [h6] at h5
          have h7 := HIN.out D[j] (List.getElem_mem hj)
          rw [lastE_succ (List.getElem?_eq_getElem hj)]
          dsimp only at h5
          omega
      have hnext : lastE D (i + 1) = e := by
        rw [lastE_succ hx]
        exact Int.toNat_natCast e
      obtain ⟨last, hlE⟩ : ∃ x, x = lastE D i := ⟨_, rfl⟩
      rw [← hlE] at hlast
      rw [← hlE]
      have HX := Lib.hid hx
      have HNX := Lib.hid hnext
      clear hdw hg hx hnext hlE
      obtain ⟨q0, q1, q2, q3, q4, q5⟩ := hb
      have qe : s ≤ e := by omega
      have qn : e ≤ la.length := by omega
      have qr : rs ≤ re := by omega
      have qm : re ≤ lb.length := by omega
      clear q0 q1 q2 q3 q4 q5
      obtain ⟨p0, hp0⟩ : ∃ x, x = off (prs la) last := ⟨_, rfl⟩
      obtain ⟨n1, hn1⟩ : ∃ x, x = (prs ((la.take s).drop last)).flatten.length := ⟨_, rfl⟩
      obtain ⟨n2, hn2⟩ : ∃ x, x = (prs ((la.take e).drop s)).flatten.length := ⟨_, rfl⟩
      have hp1 : p0 + n1 = off (prs la) s := by rw [hp0, hn1, off_prs_add la hlast]
      have hp2 : p0 + n1 + n2 = off (prs la) e := by rw [hp1, hn2, off_prs_add la qe]
      have hpb : p0 + n1 + n2 ≤ 4000000 := by have := off_prs_le la e; omega
      rw [← hp0]
      have HP1 := Lib.hid hp1
      have HP2 := Lib.hid hp2
      have HN1 := Lib.hid hn1
      have HN2 := Lib.hid hn2
      clear hp0 hp1 hp2 hn1 hn2
      go_upto_region 8 with fail
      obtain ⟨wb, hwb⟩ : ∃ x, x = wr.alloc (.cells #[.int .i64 (s : Int), .int .i64 (e : Int), .int .i64 (rs : Int), .int .i64 (re : Int)] 74) := ⟨_, rfl⟩
      have hbwb : Below wr.heap.size wr wb := by rw [hwb]; exact below_alloc (Below.refl _ _) _
      have hdb : wb.heap[wr.heap.size]? = some (.cells #[.int .i64 (s : Int), .int .i64 (e : Int), .int .i64 (rs : Int), .int .i64 (re : Int)] 74 (0, 0)) := by rw [hwb]; exact new_obj _ _
      have HSB := Aside0.mk (HS.out.below hbwb)
      rw [← hwb]
      have hne1 : wr.heap.size ≠ w3.heap.size := by have := HS.out.cells (i := i * 3) (by omega); obtain ⟨⟨_, hh⟩, _⟩ := this; have := World.block_lt_of_cell? wr _ hh; simp at this; omega
      have HRA := Aside0.mk ((HR13.out.below HS.out.bel).below hbwb)
      have HRB := Aside0.mk ((HR23.out.below HS.out.bel).below hbwb)
      have hcb : ∀ w', Below wb.heap.size wb w' → w'.cell? ⟨wr.heap.size, 0, none⟩ = some (.int .i64 (s : Int)) ∧ w'.cell? ⟨wr.heap.size, 1, none⟩ = some (.int .i64 (e : Int)) ∧ w'.cell? ⟨wr.heap.size, 2, none⟩ = some (.int .i64 (rs : Int)) ∧ w'.cell? ⟨wr.heap.size, 3, none⟩ = some (.int .i64 (re : Int)) := fun w' hb' => by
        have hk := (hb'.block _ (blk_lt hdb)).trans hdb
        exact ⟨(blk_cell hk 0).trans rfl, (blk_cell hk 1).trans rfl, (blk_cell hk 2).trans rfl, (blk_cell hk 3).trans rfl⟩
      obtain ⟨m0, m1, m2, m3⟩ := hcb wb (Below.refl _ _)
      have HCB := Aside0.mk hcb
      have hel : ((D.take i).map (toBE (prs la) (prs lb))).length = i := by rw [List.length_map, List.length_take]; omega
      obtain ⟨S0, hS0⟩ : ∃ x, x = mkS (prs ((lb.take re).drop rs)).flatten := ⟨_, rfl⟩
      have hfin : ∀ w6, Below wb.heap.size wb w6 → ∀ w', ((w6.setCell ⟨w3.heap.size, i * 3, none⟩ (.int .i64 ((p0 : Int) + n1))).setCell ⟨w3.heap.size, i * 3 + 1, none⟩ (.int .i64 ((p0 : Int) + n1 + n2))).setCell ⟨w3.heap.size, i * 3 + 2, none⟩ (.string S0) = w' → Aside0 (LnS w3 w' w3.heap.size D.length ((D.take (i + 1)).map (toBE (prs la) (prs lb)))) ∧ w'.cell? ⟨wr.heap.size, 1, none⟩ = some (.int .i64 (e : Int)) := fun w6 hb6 w' hw => by
        have hls := HSB.out.below hb6
        have hput := hls.put ⟨p0 + n1, p0 + n1 + n2, (prs ((lb.take re).drop rs)).flatten⟩ (by rw [hel]; exact hlt)
        rw [hel] at hput
        dsimp only at hput
        rw [show ((p0 + n1 + n2 : Nat) : Int) = (p0 : Int) + n1 + n2 by omega, show ((p0 + n1 : Nat) : Int) = (p0 : Int) + n1 by omega, ← hS0, hw] at hput
        have het : (D.take (i + 1)).map (toBE (prs la) (prs lb)) = (D.take i).map (toBE (prs la) (prs lb)) ++ [⟨p0 + n1, p0 + n1 + n2, (prs ((lb.take re).drop rs)).flatten⟩] := by
          have hx2 := List.getElem?_eq_some_iff.1 HX.out
          rw [List.take_succ_eq_append_getElem hlt, List.map_append, hx2.2, HP2.out, HP1.out]
          show _ ++ [(⟨off (prs la) s, off (prs la) e, (((prs lb).take re).drop rs).flatten⟩ : BE)] = _
          rw [prs_cut]
        refine ⟨⟨by rw [het]; exact hput⟩, ?_⟩
        have h5 := (HCB.out _ hb6).2.1
        rw [← hw]
        exact (World.cell?_of_block (((blk_other _ _ _ hne1).trans (blk_other _ _ _ hne1)).trans (blk_other _ _ _ hne1))).trans h5
      have HFIN := Aside0.mk hfin
      have hst : ∀ w6, Below wb.heap.size wb w6 → (∃ u, w6.cell? ⟨w3.heap.size, i * 3, none⟩ = some u) ∧ (∃ u, w6.cell? ⟨w3.heap.size, i * 3 + 1, none⟩ = some u) ∧ (∃ u, w6.cell? ⟨w3.heap.size, i * 3 + 2, none⟩ = some u) ∧ w6.frozen? ⟨w3.heap.size, i * 3, none⟩ = false ∧ w6.frozen? ⟨w3.heap.size, i * 3 + 1, none⟩ = false ∧ w6.frozen? ⟨w3.heap.size, i * 3 + 2, none⟩ = false := fun w6 hb6 => by
        have h := HSB.out.below hb6
        have e0 := h.cells (i := i * 3) (by omega)
        have e1 := h.cells (i := i * 3 + 1) (by omega)
        have e2 := h.cells (i := i * 3 + 2) (by omega)
        exact ⟨e0.1, e1.1, e2.1, e0.2, e1.2, e2.2⟩
      have HSTC := Aside0.mk hst
      have hcv : ∀ cc w6, Below wb.heap.size wb w6 → (convert 80 9 (.slice (some ⟨b2, rs, none⟩) (re - rs) cc)).run Tryz.prog w6 = .ok (.string S0) w6 := fun cc w6 hb6 => by
        rw [hS0]
        exact (HRB.out.below hb6).back qm HOKB.out
      have hcv0 : re = rs → ∀ w6, (convert 80 9 (.slice (some ⟨b2, 0, none⟩) 0 0)).run Tryz.prog w6 = .ok (.string S0) w6 := fun he w6 => by
        rw [hS0, List.drop_eq_nil_of_le (by simp; omega)]
        exact back_nil w6 _ 0
      have HCV := Aside0.mk hcv
      have HCV0 := Aside0.mk hcv0
      have j1 : ((re : Nat) : Int) ≤ (c2 : Int) := by omega
      have j2 : ((rs : Nat) : Int) ≤ (re : Int) := by omega
      have j3 : re ≤ c2 := by omega
      have i1 : ((e : Nat) : Int) ≤ (c1 : Int) := by omega
      have i2 : ((s : Nat) : Int) ≤ (e : Int) := by omega
      have i3 : ((last : Nat) : Int) ≤ (s : Int) := by omega
      have i4 : ((s : Nat) : Int) ≤ (c1 : Int) := by omega
      have i5 : e ≤ c1 := by omega
      have i6 : s ≤ c1 := by omega
      clear hfin hst hcv hcv0 hcb hdb hS0 hwb hbwb
      by_cases h1 : c1 = last
      · obtain rfl : s = c1 := by omega
        obtain rfl : e = s := by omega
        obtain rfl : last = e := by omega
        have z1 : n1 = 0 := by rw [HN1.out, List.drop_eq_nil_of_le (by simp; omega)]; rfl
        have z2 : n2 = 0 := by rw [HN2.out, List.drop_eq_nil_of_le (by simp; omega)]; rfl
        have hj1 : ∀ w5, Below wb.heap.size wb w5 → Calls Tryz.prog 53 #[.slice (some ⟨b1, 0, none⟩) 0 0] w5 fun e w' => e = .returned (.int .i64 (n1 : Int)) ∧ Below w5.heap.size w5 w' := fun w5 hb5 => by rw [z1]; exact len_nil w5 _ 0
        have hj2 : ∀ w5, Below wb.heap.size wb w5 → Calls Tryz.prog 53 #[.slice (some ⟨b1, 0, none⟩) 0 0] w5 fun e w' => e = .returned (.int .i64 (n2 : Int)) ∧ Below w5.heap.size w5 w' := fun w5 hb5 => by rw [z2]; exact len_nil w5 _ 0
        clear z1 z2
        have HJ1 := Aside0.mk hj1
        have HJ2 := Aside0.mk hj2
        clear hj1 hj2
        go_upto_region 11 with (go_at_call 53; first | (refine (HJ2.out w5 HB5.out).mono ?_; rintro e_ w6 ⟨rfl, hb6⟩; have HB6 := Aside0.mk (HB5.out.trans (hb6.mono HB5.out.size)); clear hb6; obtain ⟨m60, m61, m62, m63⟩ := HCB.out w6 HB6.out) | (refine (HJ1.out wb (Below.refl _ _)).mono ?_; rintro e_ w5 ⟨rfl, hb5⟩; have HB5 := Aside0.mk hb5; clear hb5; obtain ⟨m50, m51, m52, m53⟩ := HCB.out w5 HB5.out))
        obtain ⟨⟨z0, t0⟩, ⟨z1, t1⟩, ⟨z2, t2⟩, g0, g1, g2⟩ := HSTC.out w6 HB6.out
        have hf0 := HFIN.out w6 HB6.out
        by_cases hcr : c2 = rs
        · have hre : re = c2 := by omega
          have hrs : rs = c2 := hcr.symm
          have y0 := HCV0.out (by omega) w6
          have HF0 := Aside0.mk hf0
          subst hre hrs
          clear hf0 j1 j2 j3 qr hcr
          go_upto_region 12 with fail; generalize hW : World.setCell _ _ _ = W5; obtain ⟨HL, mE⟩ := HF0.out W5 hW; clear hW; go_wp2_with fail; go_roundw; (case rel => exact ⟨i + 1, by go_num, by omega, by rw [HNX.out], by rw [HNX.out, ← HP2.out]; simp, HL⟩); (case measure => simp [intOf]; omega)
        · have y0 := HCV.out (c2 - rs) w6 HB6.out
          have d3 : (c2 = rs) = False := by simpa using hcr
          have HF0 := Aside0.mk hf0
          clear hf0 hcr
          go_upto_region 12 with fail; generalize hW : World.setCell _ _ _ = W5; obtain ⟨HL, mE⟩ := HF0.out W5 hW; clear hW; go_wp2_with fail; go_roundw; (case rel => exact ⟨i + 1, by go_num, by omega, by rw [HNX.out], by rw [HNX.out, ← HP2.out]; simp, HL⟩); (case measure => simp [intOf]; omega)
      · by_cases h2 : c1 = s
        · obtain rfl : s = c1 := by omega
          obtain rfl : e = s := by omega
          have z2 : n2 = 0 := by rw [HN2.out, List.drop_eq_nil_of_le (by simp; omega)]; rfl
          have hj1 : ∀ w5, Below wb.heap.size wb w5 → Calls Tryz.prog 53 #[.slice (some ⟨b1, last, none⟩) (e - last) (e - last)] w5 fun e w' => e = .returned (.int .i64 (n1 : Int)) ∧ Below w5.heap.size w5 w' := fun w5 hb5 => by rw [HN1.out]; exact (HRA.out.below hb5).len qn hlast HOKA.out ha (by omega)
          have hj2 : ∀ w5, Below wb.heap.size wb w5 → Calls Tryz.prog 53 #[.slice (some ⟨b1, 0, none⟩) 0 0] w5 fun e w' => e = .returned (.int .i64 (n2 : Int)) ∧ Below w5.heap.size w5 w' := fun w5 hb5 => by rw [z2]; exact len_nil w5 _ 0
          have d1 : (e = last) = False := by simpa using h1
          clear z2 h1
          have HJ1 := Aside0.mk hj1
          have HJ2 := Aside0.mk hj2
          clear hj1 hj2
          go_upto_region 11 with (go_at_call 53; first | (refine (HJ2.out w5 HB5.out).mono ?_; rintro e_ w6 ⟨rfl, hb6⟩; have HB6 := Aside0.mk (HB5.out.trans (hb6.mono HB5.out.size)); clear hb6; obtain ⟨m60, m61, m62, m63⟩ := HCB.out w6 HB6.out) | (refine (HJ1.out wb (Below.refl _ _)).mono ?_; rintro e_ w5 ⟨rfl, hb5⟩; have HB5 := Aside0.mk hb5; clear hb5; obtain ⟨m50, m51, m52, m53⟩ := HCB.out w5 HB5.out))
          obtain ⟨⟨z0, t0⟩, ⟨z1, t1⟩, ⟨z2, t2⟩, g0, g1, g2⟩ := HSTC.out w6 HB6.out
          have hf0 := HFIN.out w6 HB6.out
          by_cases hcr : c2 = rs
          · have hre : re = c2 := by omega
            have hrs : rs = c2 := hcr.symm
            have y0 := HCV0.out (by omega) w6
            have HF0 := Aside0.mk hf0
            subst hre hrs
            clear hf0 j1 j2 j3 qr hcr
            go_upto_region 12 with fail; generalize hW : World.setCell _ _ _ = W5; obtain ⟨HL, mE⟩ := HF0.out W5 hW; clear hW; go_wp2_with fail; go_roundw; (case rel => exact ⟨i + 1, by go_num, by omega, by rw [HNX.out], by rw [HNX.out, ← HP2.out]; simp, HL⟩); (case measure => simp [intOf]; omega)
          · have y0 := HCV.out (c2 - rs) w6 HB6.out
            have d3 : (c2 = rs) = False := by simpa using hcr
            have HF0 := Aside0.mk hf0
            clear hf0 hcr
            go_upto_region 12 with fail; generalize hW : World.setCell _ _ _ = W5; obtain ⟨HL, mE⟩ := HF0.out W5 hW; clear hW; go_wp2_with fail; go_roundw; (case rel => exact ⟨i + 1, by go_num, by omega, by rw [HNX.out], by rw [HNX.out, ← HP2.out]; simp, HL⟩); (case measure => simp [intOf]; omega)
        · have hj1 : ∀ w5, Below wb.heap.size wb w5 → Calls Tryz.prog 53 #[.slice (some ⟨b1, last, none⟩) (s - last) (c1 - last)] w5 fun e w' => e = .returned (.int .i64 (n1 : Int)) ∧ Below w5.heap.size w5 w' := fun w5 hb5 => by rw [HN1.out]; exact (HRA.out.below hb5).len (by omega) hlast HOKA.out ha (by omega)
          have hj2 : ∀ w5, Below wb.heap.size wb w5 → Calls Tryz.prog 53 #[.slice (some ⟨b1, s, none⟩) (e - s) (c1 - s)] w5 fun e w' => e = .returned (.int .i64 (n2 : Int)) ∧ Below w5.heap.size w5 w' := fun w5 hb5 => by rw [HN2.out]; exact (HRA.out.below hb5).len qn qe HOKA.out ha (by omega)
          have d1 : (c1 = last) = False := by simpa using h1
          have d2 : (c1 = s) = False := by simpa using h2
          clear h1 h2
          have HJ1 := Aside0.mk hj1
          have HJ2 := Aside0.mk hj2
          clear hj1 hj2
          go_upto_region 11 with (go_at_call 53; first | (refine (HJ2.out w5 HB5.out).mono ?_; rintro e_ w6 ⟨rfl, hb6⟩; have HB6 := Aside0.mk (HB5.out.trans (hb6.mono HB5.out.size)); clear hb6; obtain ⟨m60, m61, m62, m63⟩ := HCB.out w6 HB6.out) | (refine (HJ1.out wb (Below.refl _ _)).mono ?_; rintro e_ w5 ⟨rfl, hb5⟩; have HB5 := Aside0.mk hb5; clear hb5; obtain ⟨m50, m51, m52, m53⟩ := HCB.out w5 HB5.out))
          obtain ⟨⟨z0, t0⟩, ⟨z1, t1⟩, ⟨z2, t2⟩, g0, g1, g2⟩ := HSTC.out w6 HB6.out
          have hf0 := HFIN.out w6 HB6.out
          by_cases hcr : c2 = rs
          · have hre : re = c2 := by omega
            have hrs : rs = c2 := hcr.symm
            have y0 := HCV0.out (by omega) w6
            have HF0 := Aside0.mk hf0
            subst hre hrs
            clear hf0 j1 j2 j3 qr hcr
            go_upto_region 12 with fail; generalize hW : World.setCell _ _ _ = W5; obtain ⟨HL, mE⟩ := HF0.out W5 hW; clear hW; go_wp2_with fail; go_roundw; (case rel => exact ⟨i + 1, by go_num, by omega, by rw [HNX.out], by rw [HNX.out, ← HP2.out]; simp, HL⟩); (case measure => simp [intOf]; omega)
          · have y0 := HCV.out (c2 - rs) w6 HB6.out
            have d3 : (c2 = rs) = False := by simpa using hcr
            have HF0 := Aside0.mk hf0
            clear hf0 hcr
            go_upto_region 12 with fail; generalize hW : World.setCell _ _ _ = W5; obtain ⟨HL, mE⟩ := HF0.out W5 hW; clear hW; go_wp2_with fail; go_roundw; (case rel => exact ⟨i + 1, by go_num, by omega, by rw [HNX.out], by rw [HNX.out, ← HP2.out]; simp, HL⟩); (case measure => simp [intOf]; omega)
    · obtain rfl : i = D.length := by omega
      have hown := HS.out.own (by rw [List.length_map, List.take_length]) (by omega)
      rw [List.take_length] at hown
      have hml : (D.map (toBE (prs la) (prs lb))).length = D.length := List.length_map ..
      have hb3 := HB3.out.trans (HS.out.bel.mono HB3.out.size)
      have HOW := Aside0.mk hown
      have HBB := Aside0.mk hb3
      have HML := Lib.hid hml
      clear hown hb3 hml
      go_wp2_with fail
      go_ret
      refine ⟨some ⟨w3.heap.size, 0, none⟩, D.length, D.map (toBE (prs la) (prs lb)), by rw [HML.out]; rfl, HOK.out, ?_, ?_, ?_, HBB.out⟩
      · rw [HML.out, prs_length]; exact hDn
      · rw [HML.out, prs_length]; exact hDm
      · rw [HML.out]; exact own_base_mono HOW.out HB3.out.size
end Go.Proofs.YtonajgipkpnpoaaGreatDoor.Gr
