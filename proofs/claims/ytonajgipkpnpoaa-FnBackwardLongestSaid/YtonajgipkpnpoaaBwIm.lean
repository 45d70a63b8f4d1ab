/- Backward of the package under the law. -/
import Derived.Test.YtonajgipkpnpoaaBwRd
namespace Go.Proofs.Ytonajgipkpnpoaa.QFnBackwardLead
open Go.RowKit Go.Proofs.YtonajgipkpnpoaaW.PrintWords Go.Proofs.YtonajgipkpnpoaaW.PrintLast Go.Proofs.YtonajgipkpnpoaaW.PrintMore Go.Myers Go.Proofs.Ytonajgipkpnpoaa.Gr

def toI (d : S64) : S58 := ⟨d.f0, d.f1, d.f2, d.f3⟩
def toQ (d : S65) : S56 := ⟨d.f0, d.f1, d.f2⟩

theorem parts_loop (l : List S64) (hl : l.length ≤ 4000000) : ∀ (n i : Nat) (acc : List S58), l.length - i = n → i ≤ l.length → acc.length = i → ∀ k, n < k → impl_parts.l0 k acc l (l.length : Int) (i : Int) = some (acc ++ (l.drop i).map toI) := by
  intro n
  induction n with
  | zero =>
    intro i acc hn hi ha k hk
    obtain ⟨k, rfl⟩ : ∃ m, k = m + 1 := ⟨k - 1, by omega⟩
    obtain rfl : i = l.length := by omega
    rw [impl_parts.l0, if_neg (by omega), List.drop_length]
    simp
  | succ n ih =>
    intro i acc hn hi ha k hk
    obtain ⟨k, rfl⟩ : ∃ m, k = m + 1 := ⟨k - 1, by omega⟩
    have hlt : i < l.length := by omega
    have hacc : acc.length < 4398046511104 := by omega
    have e3 : wrap64 ((i : Int) + 1) = ((i + 1 : Nat) : Int) := by rw [w64 (by omega) (by omega)]; omega
    rw [impl_parts.l0, if_pos (by omega), if_pos (by omega), if_pos (by omega), if_pos hacc, e3]
    clear e3
    rw [ih (i + 1) _ (by omega) (by omega) (by simp; omega) k (by omega), List.drop_eq_getElem_cons hlt, List.map_cons, List.append_assoc]
    congr 2
    unfold rd_T64
    rw [Int.toNat_natCast, List.getD_eq_getElem?_getD, List.getElem?_eq_getElem hlt]
    rfl

theorem parts_ev (l : List S64) (hl : l.length ≤ 4000000) : impl_parts.f (l.length + 1) l = some (l.map toI) := by
  have := parts_loop l hl l.length 0 [] rfl (by omega) rfl (l.length + 1) (by omega)
  unfold impl_parts.f
  simpa using this

theorem pieces_loop (l : List S65) (hl : l.length ≤ 4000000) : ∀ (n i : Nat) (acc : List S56), l.length - i = n → i ≤ l.length → acc.length = i → ∀ k, n < k → impl_pieces.l0 k acc l (l.length : Int) (i : Int) = some (acc ++ (l.drop i).map toQ) := by
  intro n
  induction n with
  | zero =>
    intro i acc hn hi ha k hk
    obtain ⟨k, rfl⟩ : ∃ m, k = m + 1 := ⟨k - 1, by omega⟩
    obtain rfl : i = l.length := by omega
    rw [impl_pieces.l0, if_neg (by omega), List.drop_length]
    simp
  | succ n ih =>
    intro i acc hn hi ha k hk
    obtain ⟨k, rfl⟩ : ∃ m, k = m + 1 := ⟨k - 1, by omega⟩
    have hlt : i < l.length := by omega
    have hacc : acc.length < 5864062014805 := by omega
    have e3 : wrap64 ((i : Int) + 1) = ((i + 1 : Nat) : Int) := by rw [w64 (by omega) (by omega)]; omega
    rw [impl_pieces.l0, if_pos (by omega), if_pos (by omega), if_pos (by omega), if_pos hacc, e3]
    clear e3
    rw [ih (i + 1) _ (by omega) (by omega) (by simp; omega) k (by omega), List.drop_eq_getElem_cons hlt, List.map_cons, List.append_assoc]
    congr 2
    unfold rd_T65
    rw [Int.toNat_natCast, List.getD_eq_getElem?_getD, List.getElem?_eq_getElem hlt]
    rfl

theorem pieces_ev (l : List S65) (hl : l.length ≤ 4000000) : impl_pieces.f (l.length + 1) l = some (l.map toQ) := by
  have := pieces_loop l hl l.length 0 [] rfl (by omega) rfl (l.length + 1) (by omega)
  unfold impl_pieces.f
  simpa using this

theorem dif_length (N M : Int) : ∀ (l : List Dg) (pa pb : Int), (dif N M l pa pb).length ≤ l.length + 1
  | [], pa, pb => by unfold dif; split <;> simp
  | d :: t, pa, pb => by
    have := dif_length N M t (d.x + d.len) (d.y + d.len)
    unfold dif
    split <;> simp <;> omega

/-- the limit that the package is given -/
def limOf (n : Int) : Nat := (1 + Int.tmod (Int.tmod n 2000 + 2000) 2000).toNat

theorem lim_ev (n : Int) : impl_Limit.f n = some (limOf n : Int) ∧ 0 < limOf n ∧ limOf n ≤ 2000 := by
  have h1 : Int.tmod n 2000 < 2000 := Int.tmod_lt_of_pos n (by omega)
  have h2 : -2000 < Int.tmod n 2000 := by
    have := Int.lt_tmod_of_pos n (b := 2000) (by omega)
    omega
  generalize hx : Int.tmod n 2000 = x at h1 h2
  have h3 : Int.tmod (x + 2000) 2000 < 2000 := Int.tmod_lt_of_pos _ (by omega)
  have h4 : 0 ≤ Int.tmod (x + 2000) 2000 := Int.tmod_nonneg _ (by omega)
  have hw : wrap64 (x + 2000) = x + 2000 := w64 (by omega) (by omega)
  unfold impl_Limit.f limOf
  rw [hx, hw]
  generalize Int.tmod (x + 2000) 2000 = y at h3 h4
  clear hw
  have hw2 : wrap64 (1 + y) = 1 + y := w64 (by omega) (by omega)
  rw [hw2]
  clear hw2
  refine ⟨?_, by omega, by omega⟩
  congr 1
  omega

theorem rdA_of {W : World} {A : Option Addr} {c : Nat} {l : List Int} (h : Kd.C (Kd.int .u8) W A l.length l) (hc : l.length ≤ c) : RdA W (fun _ => False) A l.length c (fun i => rd l (i : Int)) := fun hn => by
  obtain ⟨ad, hA, h0⟩ := Kd.at_int h 0 (by omega) (by omega)
  obtain ⟨b, o, sp⟩ := ad
  have hsp : sp = none := by
    cases sp with
    | none => rfl
    | some q =>
      exfalso
      simp [Addr.add, World.cell?] at h0
      cases hh : W.heap[b]? with
      | none => rw [hh] at h0; simp at h0
      | some ob => rw [hh] at h0; cases ob <;> simp at h0
  subst hsp
  refine ⟨b, o, hA, hc, fun h => h, ?_, fun i hi => ?_⟩
  · simp [Addr.add, World.cell?] at h0
    cases hh : W.heap[b]? with
    | none => rw [hh] at h0; simp at h0
    | some ob => exact (Array.getElem?_eq_some_iff.1 hh).1
  · obtain ⟨ad2, hA2, h2⟩ := Kd.at_int h (i : Int) (by omega) (by omega)
    rw [hA] at hA2
    obtain rfl := Option.some.inj hA2
    rw [Int.toNat_natCast] at h2
    unfold Addr.add at h2
    split at h2
    · rename_i e; subst e; simpa using h2
    · exact h2

def Eof (l0 l1 : List Int) : Nat → Nat → Bool := fun i j => rd l0 (i : Int) == rd l1 (j : Int)

theorem sq_of {W : World} {A0 A1 : Option Addr} {c0 c1 : Nat} {l0 l1 : List Int} (h0 : Kd.C (Kd.int .u8) W A0 l0.length l0) (hc0 : l0.length ≤ c0) (h1 : Kd.C (Kd.int .u8) W A1 l1.length l1) (hc1 : l1.length ≤ c1) (hN : l0.length ≤ 1000000) (hM : l1.length ≤ 1000000) :
    SQ W (fun _ => False) (.iface 75 (.agg #[.slice A0 l0.length c0, .slice A1 l1.length c1])) (Eof l0 l1) l0.length l1.length :=
  ⟨A0, c0, A1, c1, _, _, rfl, rfl, rdA_of h0 hc0, rdA_of h1 hc1, by omega, by omega⟩

def ImPost (W : World) (E : Nat → Nat → Bool) (N M lim : Nat) (e : Ending) (w' : World) : Prop :=
  ∃ d v l, e = .returned (.tuple #[d, v]) ∧ Kd.R k58 58 w' W.heap.size (fun _ => True) d ((dif N M l 0 0).map toI) ∧ Kd.R k56 56 w' W.heap.size (fun _ => True) v ((l.map toP).map toQ) ∧ Below W.heap.size W w' ∧ LcsAns E N M lim l

set_option maxRecDepth 100000 in
theorem lcsBackward_calls (W : World) (A0 A1 : Option Addr) (c0 c1 : Nat) (l0 l1 : List Int) (h0 : Kd.C (Kd.int .u8) W A0 l0.length l0) (hc0 : l0.length ≤ c0) (h1 : Kd.C (Kd.int .u8) W A1 l1.length l1) (hc1 : l1.length ≤ c1) (hN : l0.length ≤ 1000000) (hM : l1.length ≤ 1000000) (lim : Nat) (hl0 : 0 < lim) (hl : lim ≤ 100000) :
    Calls Try.prog 24 #[.slice A0 l0.length c0, .slice A1 l1.length c1, .int .i64 lim] W fun e w' => RdPost W (Eof l0 l1) l0.length l1.length lim e w' := by
  have hr := road_back W A0 A1 c0 c1 (Eof l0 l1) l0.length l1.length (sq_of h0 hc0 h1 hc1 hN hM) hN hM lim hl0 hl
  clear h0 h1
  go_enter Try.func24, Try.ntmps24
  go_wp2_with (go_at_call 28; refine hr.mono ?_; rintro e w5 ⟨d, v, l, rfl, h⟩; have H := Aside0.mk h; clear h)
  go_ret2
  exact ⟨d, v, l, rfl, H.out⟩

theorem ans_len {E : Nat → Nat → Bool} {N M lim : Nat} (hN : N ≤ 1000000) (hM : M ≤ 1000000) {l : List Dg} (h : LcsAns E N M lim l) : l.length ≤ 1000000 := by
  have h1 := chain_end l 0 0 h.1
  have h2 := chain_le l 0 0 (by omega) (by omega) h.1
  omega

set_option maxRecDepth 100000 in
theorem implBackward_calls (W : World) (A0 A1 : Option Addr) (c0 c1 : Nat) (l0 l1 : List Int) (h0 : Kd.C (Kd.int .u8) W A0 l0.length l0) (hc0 : l0.length ≤ c0) (h1 : Kd.C (Kd.int .u8) W A1 l1.length l1) (hc1 : l1.length ≤ c1) (hN : l0.length ≤ 1000000) (hM : l1.length ≤ 1000000) (n : Int) :
    Calls Try.prog 13 #[.slice A0 l0.length c0, .slice A1 l1.length c1, .int .i64 n] W fun e w' => ImPost W (Eof l0 l1) l0.length l1.length (limOf n) e w' := by
  have hlim := lim_ev n
  have hL := impl_Limit.calls n _ W hlim.1
  have hB := fun w (hd : Drawn0 W w) => lcsBackward_calls w A0 A1 c0 c1 l0 l1 (Kd.C_below h0 (hd.below)) hc0 (Kd.C_below h1 (hd.below)) hc1 hN hM (limOf n) hlim.2.1 (by omega)
  have HB := Aside0.mk hB
  clear h0 h1 hB hlim
  go_enter Try.func13, Try.ntmps13
  go_wp2_with (first
    | (go_at_call 17; refine hL.mono ?_; rintro e w1 ⟨rfl, hd⟩; have HD := Aside0.mk hd; clear hd)
    | (go_at_call 24; refine (HB.out _ HD.out).mono ?_; rintro e w2 ⟨d, v, l, rfl, hd, hv, hb, ha⟩; obtain ⟨Ad, cd, rfl, hcd, hdC⟩ := Kd.R_reads hd; obtain ⟨Av, cv, rfl, hcv, hvC⟩ := Kd.R_reads hv; have hll := ans_len hN hM ha; have HLD := Aside0.mk (show (dif (l0.length : Int) (l1.length : Int) l 0 0).length ≤ 4000000 by have := dif_length (l0.length : Int) (l1.length : Int) l 0 0; omega); have HLP := Aside0.mk (show (l.map toP).length ≤ 4000000 by rw [List.length_map]; omega); clear hll; have HDC := Aside0.mk hdC; have HVC := Aside0.mk hvC; have HCD := Aside0.mk hcd; have HCV := Aside0.mk hcv; have HA := Aside0.mk ha; have HB2 := Aside0.mk hb; clear hd hv hb ha hdC hvC hcd hcv)
    | (go_at_call 25; refine (impl_parts.calls _ Ad cd _ _ w2 HDC.out HCD.out (parts_ev _ HLD.out)).mono ?_; rintro e w3 ⟨v3, rfl, hr3, hb3⟩; have hp := impl_pieces.calls _ Av cv _ _ w3 (Kd.C_below HVC.out hb3) HCV.out (pieces_ev _ HLP.out); rw [List.length_map] at hp; have HP := Aside0.mk hp; have HR3 := Aside0.mk hr3; have HB3 := Aside0.mk hb3; clear hr3 hb3 hp)
    | (go_at_call 26; refine HP.out.mono ?_; rintro e w4 ⟨v4, rfl, hr4, hb4⟩; have HR4 := Aside0.mk hr4; have HB4 := Aside0.mk hb4; clear hr4 hb4))
  go_ret2
  have b2 : Below W.heap.size W w2 := HD.out.below.trans (HB2.out.mono HD.out.below.size)
  have b3 : Below W.heap.size W w3 := b2.trans (HB3.out.mono b2.size)
  exact ⟨v3, v4, l, rfl, Kd.R_lower (Kd.R_below HR3.out HB4.out) b2.size, Kd.R_lower HR4.out b3.size, b3.trans (HB4.out.mono b3.size), HA.out⟩
end Go.Proofs.Ytonajgipkpnpoaa.QFnBackwardLead
