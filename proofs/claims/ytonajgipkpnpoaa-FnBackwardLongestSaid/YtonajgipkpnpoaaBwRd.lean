/- road and Backward of the lcs package. -/
import Derived.Test.YtonajgipkpnpoaaBwCm
namespace Go.Proofs.Ytonajgipkpnpoaa.QFnBackwardLead
open Go.RowKit Go.Proofs.YtonajgipkpnpoaaW.PrintWords Go.Proofs.YtonajgipkpnpoaaW.PrintLast Go.Proofs.YtonajgipkpnpoaaW.PrintMore Go.Myers Go.Proofs.Ytonajgipkpnpoaa.Gr

def toP (d : Dg) : S65 := ⟨d.x, d.y, d.len⟩

def PrRow (W : World) (B : Nat) (v : Value) (l : List Dg) : Prop := W.ownsRow B 65 3 v l.length (rowD l)

theorem pr_R {w : World} {B : Nat} {v : Value} {l : List Dg} (h : PrRow w B v l) : Kd.R k65 65 w B (fun _ => True) v (l.map toP) := by
  refine ⟨fun _ _ => trivial, rowD l, by rw [List.length_map]; exact h, ⟨by rw [rowD_length, List.length_map]; rfl, fun j p hj => ?_⟩⟩
  rw [List.getElem?_map] at hj
  cases hd : l[j]? with
  | none => rw [hd] at hj; cases hj
  | some d =>
    rw [hd] at hj
    obtain rfl : toP d = p := by simpa using hj
    show k65.M w B _ (toP d) (((rowD l).drop (j * 3)).take 3)
    rw [rowD_piece l j d hd]
    exact k65_mkM w B _ (toP d)

def RdPost (W : World) (E : Nat → Nat → Bool) (N M lim : Nat) (e : Ending) (w' : World) : Prop :=
  ∃ d v l, e = .returned (.tuple #[d, v]) ∧ Kd.R k64 64 w' W.heap.size (fun _ => True) d (dif N M l 0 0) ∧ Kd.R k65 65 w' W.heap.size (fun _ => True) v (l.map toP) ∧ Below W.heap.size W w' ∧ LcsAns E N M lim l

theorem info65 : (Try.prog.info? 65).map (fun i => (i.zero, i.size, i.bytes)) = some (some (.agg #[.int .i64 0, .int .i64 0, .int .i64 0]), 3, 24) := by kernel_rfl

theorem new3 (wr : World) (x : Dg) : ∀ j u, [Value.int .i64 x.x, .int .i64 x.y, .int .i64 x.len][j]? = some u → ((wr.alloc (.cells #[.int .i64 x.x, .int .i64 x.y, .int .i64 x.len] 76)).alloc (.cells #[.int .i64 x.x, .int .i64 x.y, .int .i64 x.len] 65)).cell? ((⟨wr.heap.size + 1, 0, none⟩ : Addr).add j) = some u := fun j u hu => by
  have h := new_obj (wr.alloc (.cells #[.int .i64 x.x, .int .i64 x.y, .int .i64 x.len] 76)) (.cells #[.int .i64 x.x, .int .i64 x.y, .int .i64 x.len] 65)
  rw [show (wr.alloc (.cells #[.int .i64 x.x, .int .i64 x.y, .int .i64 x.len] 76)).heap.size = wr.heap.size + 1 by simp] at h
  rw [add_plain, blk_cell h]
  simpa using hu

theorem below_step2 {B : Nat} {w wr : World} (h : Below B w wr) {hB : B ≤ wr.heap.size} {o1 o2 : Obj} : Below B w ((wr.alloc o1).alloc o2) := (h.alloc hB o1).alloc (by simp; omega) o2

set_option maxRecDepth 100000 in
theorem road_back (W : World) (A1 A2 : Option Addr) (c1 c2 : Nat) (E : Nat → Nat → Bool) (N M : Nat) (hs : SQ W (fun _ => False) (.iface 75 (.agg #[.slice A1 N c1, .slice A2 M c2])) E N M) (hN : N ≤ 1000000) (hM : M ≤ 1000000) (lim : Nat) (hl0 : 0 < lim) (hl : lim ≤ 100000) :
    Calls Try.prog 28 #[.slice A1 N c1, .slice A2 M c2, .func (.func 29) #[] #[], .int .i64 lim] W fun e w' => RdPost W E N M lim e w' := by
  have hc := compute_back W _ E N M hs hN hM lim hl0 hl
  obtain ⟨i0, hi, hz0, hz1, hz2⟩ := info_parts info65
  clear hs
  go_enter Try.func28, Try.ntmps28
  go_wp2_with (go_at_call 31; refine hc.mono ?_; rintro e w5 ⟨d, v, l, rfl, hr, hd, hb, ha⟩; obtain ⟨A, cp, rfl⟩ := own_slice hr; have HR := Aside0.mk hr; have HD := Aside0.mk hd; have HB := Aside0.mk hb; have HA := Aside0.mk ha; clear hr hd hb ha)
  go_loopw [12, 27] (fun v12 v27 wr => ∃ i : Nat, v27 = .int .i64 i ∧ i ≤ l.length ∧ Aside0 (PrRow wr w5.heap.size v12 (l.take i)) ∧ Aside0 (Below w5.heap.size w5 wr)) (fun _ v27 _ => l.length - (intOf v27).toNat)
  case atStart => exact ⟨0, rfl, by omega, ⟨⟨rfl, Or.inl ⟨rfl, rfl⟩⟩⟩, ⟨Below.refl _ _⟩⟩
  case round =>
    obtain ⟨i, rfl, hi2, HP, HW⟩ := hrel
    by_cases hlt : i < l.length
    · obtain ⟨x, hx⟩ : ∃ x, l[i]? = some x := ⟨_, List.getElem?_eq_getElem hlt⟩
      have hA : ∃ g, A = some ⟨g, 0, none⟩ := by
        rcases HR.out.2 with ⟨_, h1⟩ | ⟨g, cap', cur, hv, _⟩
        · omega
        · injection hv with hv
          exact ⟨g, hv⟩
      obtain ⟨g, rfl⟩ := hA
      have hrow := DgRow.below HR.out HW.out
      have hg := rowD_get l i x hx
      have c0 := (own_at hrow _ _ hg.1).1
      have c1 := (own_at hrow _ _ hg.2.1).1
      have c2 := (own_at hrow _ _ hg.2.2).1
      have hll : l.length ≤ 1000000 := by
        have h1 := chain_end l 0 0 HA.out.1
        have h2 := chain_le l 0 0 (by omega) (by omega) HA.out.1
        omega
      have htk : l.take (i + 1) = l.take i ++ [x] := by rw [List.take_add_one, hx]; rfl
      have HTK := Lib.hid htk
      have hlt2 : (l.take i).length = i := by rw [List.length_take]; omega
      have HLT := Lib.hid hlt2
      have hp : wr.ownsRow w5.heap.size 65 3 u12 i (rowD (l.take i)) := by have := HP.out; unfold PrRow at this; rwa [hlt2] at this
      have HPP := Aside0.mk hp
      clear hrow hg htk hlt2 hp hx
      go_wp2_with (at_builtin; refine wpList_append_own _ rfl (.tmp 31) (.tmp 39) 50 rfl w5.heap.size 65 i0 _ 3 24 Try.underlying50 hi hz0 hz1 hz2 rfl (by decide) _ _ _ rfl (pw_own_below HPP.out (below_alloc (below_alloc (Below.refl _ _) _) _)) ⟨wr.heap.size + 1, 0, none⟩ 1 1 [.int .i64 x.x, .int .i64 x.y, .int .i64 x.len] rfl rfl ?h1 ?h2 ?h3 ?h4 ?h5 ?_; (case h1 => exact new3 wr x); (case h2 => intro u hu; simp at hu; rcases hu with rfl | rfl | rfl <;> rfl); (case h3 => unfold maxLen; omega); (case h4 => omega); (case h5 => have := HW.out.size; simp; omega); intro v1 w1 hown hgr _; have HG1 := Aside0.mk hgr; have HOW := Aside0.mk hown; clear hown hgr)
      go_roundw
      case rel =>
        refine ⟨i + 1, by go_num, by omega, ⟨?_⟩, ⟨(below_step2 (hB := HW.out.size) HW.out).grown HG1.out (by have := HW.out.size; simp; omega) (fun k hk => own_base HPP.out k hk)⟩⟩
        unfold PrRow
        rw [HTK.out, List.length_append, HLT.out, rowD_append]
        exact HOW.out
      case measure => simp [intOf]; omega
    · obtain rfl : i = l.length := by omega
      go_wp2_with fail
      go_ret2
      have hp := HP.out
      rw [List.take_length] at hp
      exact ⟨d, _, l, rfl, Kd.R_below HD.out HW.out, Kd.R_lower (pr_R hp) HB.out.size, HB.out.trans (HW.out.mono HB.out.size), HA.out⟩
end Go.Proofs.Ytonajgipkpnpoaa.QFnBackwardLead
