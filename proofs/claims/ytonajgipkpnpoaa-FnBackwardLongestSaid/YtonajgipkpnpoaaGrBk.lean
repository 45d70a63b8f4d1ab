/- The way back: backwardlcs. -/
import Derived.Test.YtonajgipkpnpoaaGrDg
import Derived.Test.YtonajgipkpnpoaaMyersD
namespace Go.Proofs.Ytonajgipkpnpoaa.Gr
open Go.RowKit Go.Proofs.YtonajgipkpnpoaaW.PrintWords Go.Myers

set_option maxRecDepth 100000 in
theorem ok_true (W : World) (d k : Int) (h : 0 ≤ d ∧ -d ≤ k ∧ k ≤ d) (hd : d ≤ 1099511627776) :
    Calls Try.prog 43 #[.int .i64 d, .int .i64 k] W fun e w' => e = .returned (.bool true) ∧ W = w' := by
  obtain ⟨h1, h2, h3⟩ := h
  go_enter Try.func43, Try.ntmps43
  go_wp2
  go_ret
  exact ⟨rfl, rfl⟩

set_option maxRecDepth 100000 in
theorem ok_false (W : World) (d k : Int) (h : ¬ (0 ≤ d ∧ -d ≤ k ∧ k ≤ d)) (hd : d ≤ 1099511627776) (hd2 : -1099511627776 ≤ d) :
    Calls Try.prog 43 #[.int .i64 d, .int .i64 k] W fun e w' => e = .returned (.bool false) ∧ W = w' := by
  by_cases h1 : 0 ≤ d
  · by_cases h2 : -d ≤ k
    · have h3 : ¬ k ≤ d := fun h3 => h ⟨h1, h2, h3⟩
      clear h
      go_enter Try.func43, Try.ntmps43
      go_wp2
      go_ret
      exact ⟨rfl, rfl⟩
    · clear h
      go_enter Try.func43, Try.ntmps43
      go_wp2
      go_ret
      exact ⟨rfl, rfl⟩
  · clear h
    go_enter Try.func43, Try.ntmps43
    go_wp2
    go_ret
    exact ⟨rfl, rfl⟩

/-- where the way back stands -/
structure BkSt (E : Nat → Nat → Bool) (N M : Nat) (dl : Int) (W wr : World) (D0 : Nat) (x0 y0 : Int) (D : Nat) (k x : Int) (v : Value) (l : List Dg) : Prop where
  back : Back E N M dl D k x
  row : DgRow wr W.heap.size v l
  bel : Below W.heap.size W wr
  ch : Chain E N M l x0 y0
  ex : endX l x0 ≤ x
  ey : endY l y0 ≤ x - (k + dl)
  cnt : x - x0 + (x - (k + dl) - y0) = 2 * total l + ((D0 : Int) - D)
  le : D ≤ D0

section
variable {E : Nat → Nat → Bool} {N M : Nat} {dl : Int} {W wr : World} {D0 : Nat} {x0 y0 : Int} {D : Nat} {k x : Int} {v : Value} {l : List Dg}

theorem BkSt.start (hd : dl = (N : Int) - M) (hv : valid D k) (h0 : 0 ≤ lab E N dl D k) (h1 : 0 ≤ lab E N dl D k - (k + dl)) : BkSt E N M dl W W D (lab E N dl D k) (lab E N dl D k - (k + dl)) D k (lab E N dl D k) (.slice none 0 0) [] :=
  ⟨Back.start hd hv h0 h1, ⟨rfl, Or.inl ⟨rfl, rfl⟩⟩, Below.refl _ _, trivial, Int.le_refl _, Int.le_refl _, by simp [total], Nat.le_refl _⟩

theorem BkSt.up (hd : dl = (N : Int) - M) (h : BkSt E N M dl W wr D0 x0 y0 (D + 1) k x v l) (hv : valid D (k - 1)) (he : x = lab E N dl D (k - 1)) : BkSt E N M dl W wr D0 x0 y0 D (k - 1) x v l :=
  ⟨h.back.up hd hv he, h.row, h.bel, h.ch, h.ex, by have := h.ey; omega, by have := h.cnt; omega, by have := h.le; omega⟩

theorem BkSt.right (hd : dl = (N : Int) - M) (h : BkSt E N M dl W wr D0 x0 y0 (D + 1) k x v l) (hv : valid D (k + 1)) (he : x + 1 = lab E N dl D (k + 1)) : BkSt E N M dl W wr D0 x0 y0 D (k + 1) (x + 1) v l :=
  ⟨h.back.right hd hv he, h.row, h.bel, h.ch, by have := h.ex; omega, by have := h.ey; omega, by have := h.cnt; omega, by have := h.le; omega⟩

theorem BkSt.diag (hd : dl = (N : Int) - M) (h : BkSt E N M dl W wr D0 x0 y0 D k x v l) (hx0 : 0 ≤ x0) (hy0 : 0 ≤ y0) (hne : ¬ (x = N ∧ x - (k + dl) = M)) (h1 : ∀ d, D = d + 1 → valid d (k - 1) → x ≠ lab E N dl d (k - 1)) (h2 : ∀ d, D = d + 1 → valid d (k + 1) → x + 1 ≠ lab E N dl d (k + 1))
    {w2 : World} {v2 : Value} (hr : DgRow w2 W.heap.size v2 (appendD l x (x - (k + dl)))) (hb : Below W.heap.size W w2) : BkSt E N M dl W w2 D0 x0 y0 D k (x + 1) v2 (appendD l x (x - (k + dl))) := by
  obtain ⟨b, hE, hxN, hyM⟩ := h.back.diag hd hne h1 h2
  have he := end_append l x (x - (k + dl)) x0 y0
  exact ⟨b, hr, hb, chain_append l x _ x0 y0 hx0 hy0 h.ch h.ex h.ey hxN hyM hE, by rw [he.1]; omega, by rw [he.2]; omega, by rw [total_append]; have := h.cnt; omega, h.le⟩

theorem BkSt.drawn (h : BkSt E N M dl W wr D0 x0 y0 D k x v l) (q : Nat) : BkSt E N M dl W (wr.drewN q) D0 x0 y0 D k x v l :=
  ⟨h.back, pw_own_drewN h.row q, pw_below_drewN h.bel q, h.ch, h.ex, h.ey, h.cnt, h.le⟩

theorem BkSt.small (h : BkSt E N M dl W wr D0 x0 y0 D k x v l) (hx0 : 0 ≤ x0) (hy0 : 0 ≤ y0) (hN : N < 1099511627776) (hM : M < 1099511627776) : l.length ≤ N ∧ ∀ d ∈ l, 0 ≤ d.x ∧ d.x ≤ 1099511627776 ∧ 0 ≤ d.y ∧ d.y ≤ 1099511627776 ∧ 0 ≤ d.len ∧ d.len ≤ 1099511627776 := by
  have h1 := chain_in l x0 y0 hx0 hy0 h.ch
  have h2 := chain_end l x0 y0 h.ch
  have h3 := h.ex
  have h4 := h.back.xN
  exact ⟨by omega, fun d hd => by have := h1 d hd; omega⟩
end

/-- what the way back answers -/
structure BkAns (E : Nat → Nat → Bool) (N M : Nat) (W w' : World) (D0 : Nat) (x0 y0 : Int) (v : Value) (l : List Dg) : Prop where
  row : DgRow w' W.heap.size v l
  bel : Below W.heap.size W w'
  ch : Chain E N M l x0 y0
  cnt : (N : Int) + M - x0 - y0 - 2 * total l ≤ D0

theorem BkSt.fin {E : Nat → Nat → Bool} {N M : Nat} {dl : Int} {W wr w' : World} {D0 : Nat} {x0 y0 : Int} {D : Nat} {k x : Int} {v : Value} {l : List Dg} (h : BkSt E N M dl W wr D0 x0 y0 D k x v l) (h1 : x = N) (h2 : x - (k + dl) = M) (hb : Below wr.heap.size wr w') : BkAns E N M W w' D0 x0 y0 v l :=
  ⟨h.row.below hb, h.bel.trans (hb.mono h.bel.size), h.ch, by have := h.cnt; omega⟩

section
variable {W : World} {B ge : Nat} {sq : Value} {lim dl : Int} {F : Nat → Prop} {nf : Nat} {Lf : Nat → Nat → Int} {nb : Nat} {Lb : Nat → Nat → Int} {N M : Nat}

set_option maxRecDepth 100000 in
set_option maxHeartbeats 4000000 in
theorem back_lcs (h : EG W B ge sq lim N M dl F nf Lf nb Lb) {E : Nat → Nat → Bool} (hd : dl = (N : Int) - M) (hN : N < 1099511627776) (hM : M < 1099511627776) (D0 : Nat) (k0 : Int) (hL : ∀ d k, d < D0 → valid d k → Lb d (ix d k) = lab E N dl d k) (hL0 : Lb D0 (ix D0 k0) = lab E N dl D0 k0)
    (hv : valid D0 k0) (hD : D0 < nb) (hn : D0 < 1099511627776) (h0 : 0 ≤ lab E N dl D0 k0) (h1 : 0 ≤ lab E N dl D0 k0 - (k0 + dl)) :
    Calls Try.prog 36 #[.pointer (some ⟨ge, 0, none⟩), .int .i64 D0, .int .i64 k0] W fun e w' => ∃ v l, e = .returned v ∧ BkAns E N M W w' D0 (lab E N dl D0 k0) (lab E N dl D0 k0 - (k0 + dl)) v l := by
  have hg0 := get_back h D0 k0 hv hD hn
  rw [hL0] at hg0
  have hst := BkSt.start (W := W) hd hv h0 h1
  have HST := Aside0.mk hst
  have H := Aside0.mk h
  have HH0 := Lib.hid h0
  have HH1 := Lib.hid h1
  have HD := Lib.hid hd
  have hgL : ∀ wr, Below W.heap.size W wr → ∀ d : Nat, ∀ k, d < D0 → d < 1099511627776 → valid d k → Calls Try.prog 34 #[.pointer (some ⟨ge, 0, none⟩), .int .i64 d, .int .i64 k] wr fun e w' => e = .returned (.int .i64 (lab E N dl d k)) ∧ wr = w' := fun wr hb d k hd hd2 hv => by
    have := get_back (h.below hb) d k hv (by omega) hd2
    rwa [hL d k hd hv] at this
  have HG := Aside0.mk hgL
  clear hst h h0 h1 hd hL hL0 hgL
  go_enter Try.func36, Try.ntmps36
  go_wp2_with (go_at_call 34; refine hg0.mono ?_; rintro e w' ⟨rfl, rfl⟩)
  clear hg0
  go_loopw [1, 2, 7, 8] (fun v1 v2 v7 v8 wr => ∃ (D : Nat) (k x : Int) (l : List Dg), v1 = .int .i64 D ∧ v2 = .int .i64 k ∧ v8 = .int .i64 x ∧ Aside0 (BkSt E N M dl W wr D0 (lab E N dl D0 k0) (lab E N dl D0 k0 - (k0 + dl)) D k x v7 l)) (fun _ v2 _ v8 _ => ((N : Int) + M + dl + intOf v2 - 2 * intOf v8).toNat)
  case atStart => exact ⟨D0, k0, _, [], rfl, rfl, rfl, HST⟩
  case round =>
    obtain ⟨D, k, x, l, rfl, rfl, rfl, HB⟩ := hrel
    have hx := H.out.below HB.out.bel
    obtain ⟨vf, vb, Ff, Fb, hx⟩ := hx
    have c4 : wr.cell? ⟨ge, 4, none⟩ = some (.int .i64 0) := (blk_cell hx.cells 4).trans rfl
    have c5 : wr.cell? ⟨ge, 5, none⟩ = some (.int .i64 0) := (blk_cell hx.cells 5).trans rfl
    have c6 : wr.cell? ⟨ge, 6, none⟩ = some (.int .i64 N) := (blk_cell hx.cells 6).trans rfl
    have c7 : wr.cell? ⟨ge, 7, none⟩ = some (.int .i64 M) := (blk_cell hx.cells 7).trans rfl
    have c8 : wr.cell? ⟨ge, 8, none⟩ = some (.int .i64 dl) := (blk_cell hx.cells 8).trans rfl
    have b1 := HB.out.back.x0
    have b2 := HB.out.back.y0
    have b3 := HB.out.back.xN
    have b4 := HB.out.back.yM
    have b5 : -1099511627776 ≤ dl ∧ dl ≤ 1099511627776 := by have := HD.out; omega
    have b6 : D < 1099511627776 := by have := HB.out.le; omega
    have b7 : D < nb := by have := HB.out.le; omega
    have b8 : -1099511627776 ≤ k ∧ k ≤ 1099511627776 := by obtain ⟨a, b, _⟩ := HB.out.back.v; omega
    clear hx
    by_cases hend : x = N ∧ x - (k + dl) = M
    · obtain ⟨e1, e2⟩ := hend
      have E1 := Lib.hid e1
      have E2 := Lib.hid e2
      have t1 : (x != (N : Int)) = false := by simp [e1]
      have t2 : (x - (k + dl) != (M : Int)) = false := by simp [e2]
      clear e1 e2
      go_wp2_with fail
      go_quiet (fail)
      go_wp2_with fail
      go_ret
      exact ⟨_, l, rfl, HB.out.fin E1.out E2.out (pw_below_drewN (Below.refl _ _) _)⟩
    · have HE := Lib.hid hend
      go_upto_region 3 with fail
      go_cut [34] from 14 to 34 (fun v34 w => v34 = .bool true ∧ ∃ q, w = wr.drewN q)
      case first =>
        by_cases hxN : x = N
        · have t1 : (x != (N : Int)) = false := by simp [hxN]
          have t2 : (x - (k + dl) != (M : Int)) = true := by rw [bne_iff_ne]; exact fun e => hend ⟨hxN, e⟩
          clear hxN hend
          go_quiet (fail)
          go_wp2_with fail
          go_meet
          exact ⟨rfl, _, rfl⟩
        · have t1 : (x != (N : Int)) = true := by rw [bne_iff_ne]; exact hxN
          clear hend
          go_quiet (fail)
          go_wp2_with fail
          go_meet
          exact ⟨rfl, _, rfl⟩
      case rest =>
        obtain ⟨rfl, q, hwq⟩ := hcut
        have HB2 := Aside0.mk (HB.out.drawn q)
        replace c4 : (wr.drewN q).cell? ⟨ge, 4, none⟩ = some (.int .i64 0) := c4
        replace c5 : (wr.drewN q).cell? ⟨ge, 5, none⟩ = some (.int .i64 0) := c5
        replace c8 : (wr.drewN q).cell? ⟨ge, 8, none⟩ = some (.int .i64 dl) := c8
        rw [← hwq] at HB2 c4 c5 c8
        clear hwq HB c6 c7
        have hsm := HB2.out.small HH0.out HH1.out hN hM
        have happ := lcs_append wc.drew W.heap.size HB2.out.bel.size u7 l HB2.out.row x (x - (k + dl)) (by omega) hsm.2
        have HAPP := Aside0.mk happ
        clear hsm happ
        have hm : 2 * x + 1 ≤ N + M + dl + k := by omega
        have HM := Lib.hid hm
        clear hm
        rcases D with _ | D
        · have ho1 := ok_false wc (-1) (k - 1) (by omega) (by omega) (by omega)
          have ho2 := ok_false wc (-1) (k + 1) (by omega) (by omega) (by omega)
          have HU1 := Aside0.mk (show ∀ d, 0 = d + 1 → valid d (k - 1) → x ≠ lab E N dl d (k - 1) from fun d h => by omega)
          have HU2 := Aside0.mk (show ∀ d, 0 = d + 1 → valid d (k + 1) → x + 1 ≠ lab E N dl d (k + 1) from fun d h => by omega)
          clear hend
          go_wp2_with (go_at_call 43; first | (with_reducible refine ho1.mono ?_; rintro e w' ⟨rfl, rfl⟩) | (with_reducible refine ho2.mono ?_; rintro e w' ⟨rfl, rfl⟩))
          have hw1 : IntKind.i64.wrap x = x := IntWalk.i64_in _ (by omega)
          have hw2 : IntKind.i64.wrap (x - (k + dl)) = x - (k + dl) := IntWalk.i64_in _ (by omega)
          go_still_tail 13, (by kernel_rfl)
          clear hw1 hw2
          change wpList _ _ _ _ _ wc.drew
          go_wp2_with (go_at_call 44; refine HAPP.out.mono ?_; rintro e w2 ⟨v2, rfl, hr2, hb2⟩; have HR2 := Aside0.mk hr2; have HW2 := Aside0.mk hb2; clear hr2 hb2)
          go_roundw
          case rel => exact ⟨0, k, x + 1, _, by go_num, rfl, by go_num, Aside0.mk (HB2.out.diag HD.out HH0.out HH1.out HE.out HU1.out HU2.out HR2.out (HB2.out.bel.drew.trans HW2.out))⟩
          case measure => have := HM.out; simp [intOf]; omega
        · have hv1 := HB2.out.back.v
          have hv2 : ∀ k', ((k' - k) % 2 = 1) → -(D : Int) ≤ k' → k' ≤ D → valid D k' := fun k' h1 h2 h3 => ⟨h2, h3, by obtain ⟨_, _, h4⟩ := hv1; omega⟩
          have bD : D < D0 := by have := HB2.out.le; omega
          have bD2 : D < 1099511627776 := by omega
          by_cases hA : -(D : Int) ≤ k - 1 ∧ k - 1 ≤ D
          · have va := hv2 (k - 1) (by omega) hA.1 hA.2
            have ho1 := ok_true wc D (k - 1) (by omega) (by omega)
            have hg1 := HG.out wc HB2.out.bel D (k - 1) bD bD2 va
            by_cases he1 : x = lab E N dl D (k - 1)
            · have t1 : (x == lab E N dl D (k - 1)) = true := by simpa using he1
              have HX := Aside0.mk (HB2.out.up HD.out va he1)
              clear he1 va hv1 hv2 hA hend
              go_wp2_with (first | (go_at_call 43; first | (with_reducible refine ho1.mono ?_; rintro e w' ⟨rfl, rfl⟩)) | (go_at_call 34; first | (with_reducible refine hg1.mono ?_; rintro e w' ⟨rfl, rfl⟩)))
              go_roundw
              case rel => exact ⟨D, k - 1, x, _, by go_num, rfl, rfl, HX⟩
              case measure => have := HM.out; simp [intOf]; omega
            · have t1 : (x == lab E N dl D (k - 1)) = false := by simpa using he1
              have HU1a : Aside0 (∀ d, D + 1 = d + 1 → valid d (k - 1) → x ≠ lab E N dl d (k - 1)) := ⟨fun d h _ => (show D = d by omega) ▸ he1⟩
              clear he1 va
              by_cases hB : -(D : Int) ≤ k + 1 ∧ k + 1 ≤ D
              · have vb := hv2 (k + 1) (by omega) hB.1 hB.2
                have ho2 := ok_true wc D (k + 1) (by omega) (by omega)
                have hg2 := HG.out wc HB2.out.bel D (k + 1) bD bD2 vb
                by_cases he2 : x + 1 = lab E N dl D (k + 1)
                · have t2 : (x + 1 == lab E N dl D (k + 1)) = true := by simpa using he2
                  have HX := Aside0.mk (HB2.out.right HD.out vb he2)
                  clear he2 vb hv1 hv2 hA hB hend
                  go_wp2_with (first | (go_at_call 43; first | (with_reducible refine ho1.mono ?_; rintro e w' ⟨rfl, rfl⟩) | (with_reducible refine ho2.mono ?_; rintro e w' ⟨rfl, rfl⟩)) | (go_at_call 34; first | (with_reducible refine hg1.mono ?_; rintro e w' ⟨rfl, rfl⟩) | (with_reducible refine hg2.mono ?_; rintro e w' ⟨rfl, rfl⟩)))
                  go_roundw
                  case rel => exact ⟨D, k + 1, x + 1, _, by go_num, rfl, rfl, HX⟩
                  case measure => have := HM.out; simp [intOf]; omega
                · have t2 : (x + 1 == lab E N dl D (k + 1)) = false := by simpa using he2
                  have HU2a : Aside0 (∀ d, D + 1 = d + 1 → valid d (k + 1) → x + 1 ≠ lab E N dl d (k + 1)) := ⟨fun d h _ => (show D = d by omega) ▸ he2⟩
                  clear he2 vb
                  have HU1 := Aside0.mk (HU1a.out)
                  have HU2 := Aside0.mk (HU2a.out)
                  clear hv1 hv2 hA hB hend
                  go_wp2_with (first | (go_at_call 43; first | (with_reducible refine ho1.mono ?_; rintro e w' ⟨rfl, rfl⟩) | (with_reducible refine ho2.mono ?_; rintro e w' ⟨rfl, rfl⟩)) | (go_at_call 34; first | (with_reducible refine hg1.mono ?_; rintro e w' ⟨rfl, rfl⟩) | (with_reducible refine hg2.mono ?_; rintro e w' ⟨rfl, rfl⟩)))
                  have hw1 : IntKind.i64.wrap x = x := IntWalk.i64_in _ (by omega)
                  have hw2 : IntKind.i64.wrap (x - (k + dl)) = x - (k + dl) := IntWalk.i64_in _ (by omega)
                  go_still_tail 13, (by kernel_rfl)
                  clear hw1 hw2
                  change wpList _ _ _ _ _ wc.drew
                  go_wp2_with (go_at_call 44; refine HAPP.out.mono ?_; rintro e w2 ⟨v2, rfl, hr2, hb2⟩; have HR2 := Aside0.mk hr2; have HW2 := Aside0.mk hb2; clear hr2 hb2)
                  go_roundw
                  case rel => exact ⟨D + 1, k, x + 1, _, by go_num, rfl, by go_num, Aside0.mk (HB2.out.diag HD.out HH0.out HH1.out HE.out HU1.out HU2.out HR2.out (HB2.out.bel.drew.trans HW2.out))⟩
                  case measure => have := HM.out; simp [intOf]; omega
              · have ho2 := ok_false wc D (k + 1) (by omega) (by omega) (by omega)
                have HU2a : Aside0 (∀ d, D + 1 = d + 1 → valid d (k + 1) → x + 1 ≠ lab E N dl d (k + 1)) := ⟨fun d h hv => absurd ((show D = d by omega) ▸ ⟨hv.1, hv.2.1⟩ : -(D : Int) ≤ k + 1 ∧ k + 1 ≤ D) hB⟩
                have HU1 := Aside0.mk (HU1a.out)
                have HU2 := Aside0.mk (HU2a.out)
                clear hv1 hv2 hA hB hend
                go_wp2_with (first | (go_at_call 43; first | (with_reducible refine ho1.mono ?_; rintro e w' ⟨rfl, rfl⟩) | (with_reducible refine ho2.mono ?_; rintro e w' ⟨rfl, rfl⟩)) | (go_at_call 34; first | (with_reducible refine hg1.mono ?_; rintro e w' ⟨rfl, rfl⟩)))
                have hw1 : IntKind.i64.wrap x = x := IntWalk.i64_in _ (by omega)
                have hw2 : IntKind.i64.wrap (x - (k + dl)) = x - (k + dl) := IntWalk.i64_in _ (by omega)
                go_still_tail 13, (by kernel_rfl)
                clear hw1 hw2
                change wpList _ _ _ _ _ wc.drew
                go_wp2_with (go_at_call 44; refine HAPP.out.mono ?_; rintro e w2 ⟨v2, rfl, hr2, hb2⟩; have HR2 := Aside0.mk hr2; have HW2 := Aside0.mk hb2; clear hr2 hb2)
                go_roundw
                case rel => exact ⟨D + 1, k, x + 1, _, by go_num, rfl, by go_num, Aside0.mk (HB2.out.diag HD.out HH0.out HH1.out HE.out HU1.out HU2.out HR2.out (HB2.out.bel.drew.trans HW2.out))⟩
                case measure => have := HM.out; simp [intOf]; omega
          · have ho1 := ok_false wc D (k - 1) (by omega) (by omega) (by omega)
            have HU1a : Aside0 (∀ d, D + 1 = d + 1 → valid d (k - 1) → x ≠ lab E N dl d (k - 1)) := ⟨fun d h hv => absurd ((show D = d by omega) ▸ ⟨hv.1, hv.2.1⟩ : -(D : Int) ≤ k - 1 ∧ k - 1 ≤ D) hA⟩
            by_cases hB : -(D : Int) ≤ k + 1 ∧ k + 1 ≤ D
            · have vb := hv2 (k + 1) (by omega) hB.1 hB.2
              have ho2 := ok_true wc D (k + 1) (by omega) (by omega)
              have hg2 := HG.out wc HB2.out.bel D (k + 1) bD bD2 vb
              by_cases he2 : x + 1 = lab E N dl D (k + 1)
              · have t2 : (x + 1 == lab E N dl D (k + 1)) = true := by simpa using he2
                have HX := Aside0.mk (HB2.out.right HD.out vb he2)
                clear he2 vb hv1 hv2 hA hB hend
                go_wp2_with (first | (go_at_call 43; first | (with_reducible refine ho1.mono ?_; rintro e w' ⟨rfl, rfl⟩) | (with_reducible refine ho2.mono ?_; rintro e w' ⟨rfl, rfl⟩)) | (go_at_call 34; first | (with_reducible refine hg2.mono ?_; rintro e w' ⟨rfl, rfl⟩)))
                go_roundw
                case rel => exact ⟨D, k + 1, x + 1, _, by go_num, rfl, rfl, HX⟩
                case measure => have := HM.out; simp [intOf]; omega
              · have t2 : (x + 1 == lab E N dl D (k + 1)) = false := by simpa using he2
                have HU2a : Aside0 (∀ d, D + 1 = d + 1 → valid d (k + 1) → x + 1 ≠ lab E N dl d (k + 1)) := ⟨fun d h _ => (show D = d by omega) ▸ he2⟩
                clear he2 vb
                have HU1 := Aside0.mk (HU1a.out)
                have HU2 := Aside0.mk (HU2a.out)
                clear hv1 hv2 hA hB hend
                go_wp2_with (first | (go_at_call 43; first | (with_reducible refine ho1.mono ?_; rintro e w' ⟨rfl, rfl⟩) | (with_reducible refine ho2.mono ?_; rintro e w' ⟨rfl, rfl⟩)) | (go_at_call 34; first | (with_reducible refine hg2.mono ?_; rintro e w' ⟨rfl, rfl⟩)))
                have hw1 : IntKind.i64.wrap x = x := IntWalk.i64_in _ (by omega)
                have hw2 : IntKind.i64.wrap (x - (k + dl)) = x - (k + dl) := IntWalk.i64_in _ (by omega)
                go_still_tail 13, (by kernel_rfl)
                clear hw1 hw2
                change wpList _ _ _ _ _ wc.drew
                go_wp2_with (go_at_call 44; refine HAPP.out.mono ?_; rintro e w2 ⟨v2, rfl, hr2, hb2⟩; have HR2 := Aside0.mk hr2; have HW2 := Aside0.mk hb2; clear hr2 hb2)
                go_roundw
                case rel => exact ⟨D + 1, k, x + 1, _, by go_num, rfl, by go_num, Aside0.mk (HB2.out.diag HD.out HH0.out HH1.out HE.out HU1.out HU2.out HR2.out (HB2.out.bel.drew.trans HW2.out))⟩
                case measure => have := HM.out; simp [intOf]; omega
            · have ho2 := ok_false wc D (k + 1) (by omega) (by omega) (by omega)
              have HU2a : Aside0 (∀ d, D + 1 = d + 1 → valid d (k + 1) → x + 1 ≠ lab E N dl d (k + 1)) := ⟨fun d h hv => absurd ((show D = d by omega) ▸ ⟨hv.1, hv.2.1⟩ : -(D : Int) ≤ k + 1 ∧ k + 1 ≤ D) hB⟩
              have HU1 := Aside0.mk (HU1a.out)
              have HU2 := Aside0.mk (HU2a.out)
              clear hv1 hv2 hA hB hend
              go_wp2_with (go_at_call 43; first | (with_reducible refine ho1.mono ?_; rintro e w' ⟨rfl, rfl⟩) | (with_reducible refine ho2.mono ?_; rintro e w' ⟨rfl, rfl⟩))
              have hw1 : IntKind.i64.wrap x = x := IntWalk.i64_in _ (by omega)
              have hw2 : IntKind.i64.wrap (x - (k + dl)) = x - (k + dl) := IntWalk.i64_in _ (by omega)
              go_still_tail 13, (by kernel_rfl)
              clear hw1 hw2
              change wpList _ _ _ _ _ wc.drew
              go_wp2_with (go_at_call 44; refine HAPP.out.mono ?_; rintro e w2 ⟨v2, rfl, hr2, hb2⟩; have HR2 := Aside0.mk hr2; have HW2 := Aside0.mk hb2; clear hr2 hb2)
              go_roundw
              case rel => exact ⟨D + 1, k, x + 1, _, by go_num, rfl, by go_num, Aside0.mk (HB2.out.diag HD.out HH0.out HH1.out HE.out HU1.out HU2.out HR2.out (HB2.out.bel.drew.trans HW2.out))⟩
              case measure => have := HM.out; simp [intOf]; omega
end
end Go.Proofs.Ytonajgipkpnpoaa.Gr
