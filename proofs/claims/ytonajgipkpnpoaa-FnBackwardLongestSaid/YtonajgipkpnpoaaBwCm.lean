/- compute, with the road from the end. -/
import Derived.Test.YtonajgipkpnpoaaBwTd
namespace Go.Proofs.Ytonajgipkpnpoaa.QFnBackwardLead
open Go.RowKit Go.Proofs.YtonajgipkpnpoaaW.PrintWords Go.Proofs.YtonajgipkpnpoaaW.PrintLast Go.Proofs.YtonajgipkpnpoaaW.PrintMore Go.Myers Go.Proofs.Ytonajgipkpnpoaa.Gr

theorem rowD_piece : ∀ (l : List Dg) (j : Nat) (d : Dg), l[j]? = some d → ((rowD l).drop (j * 3)).take 3 = cellsD d
  | [], j, d, h => by simp at h
  | a :: t, 0, d, h => by
    simp at h; subst h
    simp [rowD, cellsD]
  | a :: t, j + 1, d, h => by
    have := rowD_piece t j d (by simpa using h)
    rw [show rowD (a :: t) = cellsD a ++ rowD t by simp [rowD], show (j + 1) * 3 = (cellsD a).length + j * 3 by simp [cellsD]; omega, List.drop_length_add_append]
    exact this

theorem dg_C {w : World} {B : Nat} {v : Value} {l : List Dg} (h : DgRow w B v l) : ∃ A c, v = .slice A l.length c ∧ l.length ≤ c ∧ Kd.C k76 w A l.length (l.map toS) := by
  have hr : Reps (fun x cs => k76.K w x cs) 3 (l.map toS) (rowD l) := by
    refine ⟨by rw [rowD_length, List.length_map], fun j p hj => ?_⟩
    rw [List.getElem?_map] at hj
    cases hd : l[j]? with
    | none => rw [hd] at hj; cases hj
    | some d =>
      rw [hd] at hj
      obtain rfl : toS d = p := by simpa using hj
      rw [rowD_piece l j d hd]
      exact k76_mk w (toS d)
  have ho : OwnRow (fun x cs => k76.K w x cs) 76 3 w B v (l.map toS) := ⟨rowD l, by rw [List.length_map]; exact h, hr⟩
  obtain ⟨A, c, e, hl, hrow⟩ := ho.reads
  rw [List.length_map] at e hl hrow
  exact ⟨A, c, e, hl, hrow⟩

/-- what the pieces are -/
def LcsAns (E : Nat → Nat → Bool) (N M lim : Nat) (l : List Dg) : Prop :=
  Chain E N M l 0 0 ∧ (open_ E N ((N : Int) - M) lim ∨ ∃ D0 : Nat, (N : Int) + M - 2 * total l ≤ D0 ∧ ∀ d, d + 1 = D0 → open_ E N ((N : Int) - M) d)

def CmPost (W : World) (E : Nat → Nat → Bool) (N M lim : Nat) (e : Ending) (w' : World) : Prop :=
  ∃ d v l, e = .returned (.tuple #[d, v]) ∧ DgRow w' W.heap.size v l ∧ Kd.R k64 64 w' W.heap.size (fun _ => True) d (dif N M l 0 0) ∧ Below W.heap.size W w' ∧ LcsAns E N M lim l

set_option maxRecDepth 100000 in
theorem lengths_any (W : World) (A1 A2 : Option Addr) (n1 c1 n2 c2 : Nat) (_h1 : n1 ≤ 1099511627776) (_h2 : n2 ≤ 1099511627776) :
    Calls Try.prog 69 #[.agg #[.slice A1 n1 c1, .slice A2 n2 c2]] W fun e w' => e = .returned (.tuple #[.int .i64 n1, .int .i64 n2]) ∧ Below W.heap.size W w' := by
  go_enter Try.func69, Try.ntmps69
  go_wp2_with fail
  go_quiet (fail)
  go_wp2_with fail
  go_ret2
  exact ⟨rfl, pw_below_drewN (below_alloc (Below.refl _ _) _) _⟩

/-- the state at the road's start -/
def cx0 (W w3 : World) (w : World) (sq : Value) (lim N M : Nat) (F1 F2 : Nat → Prop) (E : Nat → Nat → Bool) : Cx :=
  ⟨w, W.heap.size, w3.heap.size, sq, lim, N, M, (fun k => F1 k ∨ F2 k ∨ k = w3.heap.size), 0, (fun _ _ => 0), E⟩

theorem gs_start {W w1 w2 w3 w : World} {sq v1 v2 : Value} {lim N M : Nat} {F1 F2 : Nat → Prop} {E : Nat → Nat → Bool} (hs : SQ W (fun _ => False) sq E N M) (hN : N ≤ 1000000) (hM : M ≤ 1000000) (hl : lim ≤ 100000)
    (_b1 : Below W.heap.size W w1) (_b2 : Below W.heap.size W w2) (b3 : Below W.heap.size W w3) (b23 : Below w2.heap.size w2 w3)
    (t1 : ∀ L, Tri w2 W.heap.size F1 v1 0 L) (_f1 : ∀ k, F1 k → w1.heap.size ≤ k) (t2 : ∀ L, Tri w3 W.heap.size F2 v2 0 L) (f2 : ∀ k, F2 k → w2.heap.size ≤ k)
    (hw : w = w3.alloc (.cells (egC sq v1 v2 lim N M ((N : Int) - M)) 85)) :
    (cx0 W w3 w sq lim N M F1 F2 E).ok ∧ GS (cx0 W w3 w sq lim N M F1 F2 E) w 0 (fun _ => False) ∧ Below W.heap.size W w := by
  have hb3w : Below w3.heap.size w3 w := by rw [hw]; exact below_alloc (Below.refl _ _) _
  have hbw : Below W.heap.size W w := b3.trans (hb3w.mono b3.size)
  have l1 : ∀ k, F1 k → W.heap.size ≤ k ∧ k < w2.heap.size := fun k hk => by obtain ⟨_, _, _, t⟩ := t1 (fun _ _ => 0); exact t.lo k hk
  have l2 : ∀ k, F2 k → W.heap.size ≤ k ∧ k < w3.heap.size := fun k hk => by obtain ⟨_, _, _, t⟩ := t2 (fun _ _ => 0); exact t.lo k hk
  have h23 := b23.size
  have h3 := b3.size
  have hlo : ∀ k, (F1 k ∨ F2 k ∨ k = w3.heap.size) → W.heap.size ≤ k := fun k hk => by
    rcases hk with hk | hk | hk
    · exact (l1 k hk).1
    · exact (l2 k hk).1
    · omega
  refine ⟨⟨hN, hM, hl, hlo, hbw.size⟩, ⟨(fun k => F1 k ∨ F2 k ∨ k = w3.heap.size), 0, (fun _ _ => 0), Step.refl _ _, ⟨v1, v2, F1, F2, ?_, (t1 _).below b23 |>.below hb3w, (t2 _).below hb3w, fun k h1 h2 => ?_, fun h => ?_, fun h => ?_, fun k => Iff.rfl, ?_⟩, ?_, ⟨fun d k h => by omega, fun k h => h.elim, Or.inl ⟨rfl, fun k h => h⟩⟩⟩, hbw⟩
  · rw [hw]; exact new_obj _ _
  · have := (l1 k h1).2; have := f2 k h2; omega
  · have := (l1 _ h).2; simp only [cx0] at this; omega
  · have := (l2 _ h).2; simp only [cx0] at this; omega
  · simp only [cx0]; omega
  · exact hs.step ⟨hbw.os, hbw.tape, hbw.output, hbw.size, fun k hk _ => hbw.block k hk, fun k hk => Or.inr (hlo k hk)⟩

set_option maxRecDepth 100000 in
theorem compute_back (W : World) (sq : Value) (E : Nat → Nat → Bool) (N M : Nat) (hs : SQ W (fun _ => False) sq E N M) (hN : N ≤ 1000000) (hM : M ≤ 1000000) (lim : Nat) (hl0 : 0 < lim) (hl : lim ≤ 100000) :
    Calls Try.prog 31 #[sq, .func (.func 29) #[] #[], .int .i64 lim] W fun e w' => CmPost W E N M lim e w' := by
  have HS := Aside0.mk hs
  obtain ⟨A1, c1, A2, c2, f, g, rfl, rfl, ha, hb, hN2, hM2⟩ := hs
  have hm : ∀ w, Sem.run Try.prog (method 220 75 (.agg #[.slice A1 N c1, .slice A2 M c2]) "loop.example/pub-g01452/pub/xdiff_lcs.lengths") w = .ok (69, .agg #[.slice A1 N c1, .slice A2 M c2]) w := fun _ => by kernel_rfl
  clear ha hb
  go_enter Try.func31, Try.ntmps31
  go_wp2_with (first
    | (go_at_call 69; refine (lengths_any _ A1 A2 N c1 M c2 hN2 hM2).mono ?_; rintro e w1 ⟨rfl, hb1⟩; have HB1 := Aside0.mk hb1; clear hb1)
    | (go_at_call 39; first
      | (refine (newtriang_any _ W.heap.size HB2.out.size lim hl).mono ?_; rintro e w3 ⟨v2, F2, rfl, hb3, ht2, hf2⟩; have HB3 := Aside0.mk (HB2.out.trans (hb3.mono HB2.out.size)); have HB3' := Aside0.mk hb3; have HT2 := Aside0.mk ht2; have HF2 := Aside0.mk hf2; clear hb3 ht2 hf2)
      | (refine (newtriang_any _ W.heap.size HB1.out.size lim hl).mono ?_; rintro e w2 ⟨v1, F1, rfl, hb2, ht1, hf1⟩; have HB2 := Aside0.mk (HB1.out.trans (hb2.mono HB1.out.size)); have HT1 := Aside0.mk ht1; have HF1 := Aside0.mk hf1; clear hb2 ht1 hf1))
    | (go_at_call 29; obtain ⟨hok, hgs, hbe⟩ := gs_start (E := fun i j => f i == g j) HS.out hN hM hl HB1.out HB2.out HB3.out HB3'.out HT1.out HF1.out HT2.out HF2.out rfl; have HBE := Aside0.mk hbe; refine (backward_any _ hok hgs).mono ?_; clear hok hgs hbe; rintro e w5 ⟨v, l, rfl, ha⟩; obtain ⟨A, c, rfl, hlc, hC⟩ := dg_C ha.row; have htd := xdiff_lcs_lcs_toDiffs.calls (l.length + 1) A c (l.map toS) N M _ w5 (by rw [List.length_map]; exact hC) (by rw [List.length_map]; exact hlc) (td_ev hN hM l ha.ch); rw [List.length_map] at htd; have HTD := Aside0.mk htd; have HLC := Aside0.mk hlc; have HC := Aside0.mk hC; have HA := Aside0.mk ha; clear htd hlc hC ha)
    | (go_at_call 40; refine HTD.out.mono ?_; rintro e w6 ⟨d, rfl, hr, hb6⟩; have HR := Aside0.mk hr; have HB6 := Aside0.mk hb6; clear hr hb6))
  go_ret2
  have hb5 : Below W.heap.size W w5 := HBE.out.trans HA.out.bel
  exact ⟨d, _, l, rfl, HA.out.row.below HB6.out, Kd.R_lower HR.out hb5.size, hb5.trans (HB6.out.mono hb5.size), HA.out.ch, HA.out.ex⟩
end Go.Proofs.Ytonajgipkpnpoaa.QFnBackwardLead
