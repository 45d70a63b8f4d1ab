/- The plain law of toDiffs: what lies between common pieces. -/
import Derived.Test.YtonajgipkpnpoaaQFnBackwardLeadx
import Derived.Test.YtonajgipkpnpoaaGrNt
namespace Go.Proofs.Ytonajgipkpnpoaa.QFnBackwardLead
open Go.RowKit Go.Proofs.YtonajgipkpnpoaaW.PrintWords Go.Proofs.YtonajgipkpnpoaaW.PrintLast Go.Proofs.YtonajgipkpnpoaaW.PrintMore Go.Myers Go.Proofs.Ytonajgipkpnpoaa.Gr

def toS (d : Dg) : S76 := ⟨d.x, d.y, d.len⟩

def dif (N M : Int) : List Dg → Int → Int → List S64
  | [], pa, pb => if pa < N ∨ pb < M then [⟨pa, N, pb, M⟩] else []
  | d :: t, pa, pb => (if pa < d.x ∨ pb < d.y then [⟨pa, d.x, pb, d.y⟩] else []) ++ dif N M t (d.x + d.len) (d.y + d.len)

theorem w64 {i : Int} (h0 : -9223372036854775808 ≤ i) (h1 : i ≤ 9223372036854775807) : wrap64 i = i := by unfold wrap64; omega

theorem drop_cons {l t : List Dg} {d : Dg} {i : Nat} (h : l.drop i = d :: t) : i < l.length ∧ l[i]? = some d ∧ l.drop (i + 1) = t := by
  have hlt : i < l.length := by
    rcases Nat.lt_or_ge i l.length with h1 | h1
    · exact h1
    · rw [List.drop_eq_nil_of_le h1] at h; cases h
  rw [List.drop_eq_getElem_cons hlt] at h
  injection h with h1 h2
  exact ⟨hlt, by rw [List.getElem?_eq_getElem hlt, h1], h2⟩

theorem rdS {l : List Dg} {d : Dg} {i : Nat} (h : l[i]? = some d) : rd_T76 (l.map toS) (i : Int) = toS d := by
  unfold rd_T76
  rw [Int.toNat_natCast, List.getD_eq_getElem?_getD, List.getElem?_map, h]
  rfl

theorem td_step (k : Nat) (N M : Int) (acc : List S64) (pa pb : Int) (l : List S76) (i : Nat) (d : S76) (hi : i < l.length) (hd : rd_T76 l (i : Int) = d) (hacc : acc.length < 4398046511104) (e1 : wrap64 (d.f0 + d.f2) = d.f0 + d.f2) (e2 : wrap64 (d.f1 + d.f2) = d.f1 + d.f2) (e3 : wrap64 ((i : Int) + 1) = ((i + 1 : Nat) : Int)) :
    xdiff_lcs_lcs_toDiffs.l0 (k + 1) N M acc pa pb l (l.length : Int) (i : Int) = xdiff_lcs_lcs_toDiffs.l0 k N M (acc ++ (if pa < d.f0 ∨ pb < d.f1 then [⟨pa, d.f0, pb, d.f1⟩] else [])) (d.f0 + d.f2) (d.f1 + d.f2) l (l.length : Int) ((i + 1 : Nat) : Int) := by
  rw [xdiff_lcs_lcs_toDiffs.l0]
  rw [hd, e1, e2, e3, if_pos (by omega), if_pos (by omega), if_pos (by omega)]
  by_cases p : pa < d.f0
  · rw [if_pos p, if_pos hacc, if_pos (Or.inl p)]
  · rw [if_neg p]
    by_cases q : pb < d.f1
    · rw [if_pos q, if_pos hacc, if_pos (Or.inr q)]
    · rw [if_neg q, if_neg (by omega), List.append_nil]

theorem td_last (k : Nat) (N M : Int) (acc : List S64) (pa pb : Int) (l : List S76) (i : Nat) (hi : l.length ≤ i) (hacc : acc.length < 4398046511104) :
    xdiff_lcs_lcs_toDiffs.l0 (k + 1) N M acc pa pb l (l.length : Int) (i : Int) = some (acc ++ (if pa < N ∨ pb < M then [⟨pa, N, pb, M⟩] else [])) := by
  rw [xdiff_lcs_lcs_toDiffs.l0]
  rw [if_neg (by omega)]
  by_cases p : pa < N
  · rw [if_pos p, if_pos hacc, if_pos (Or.inl p)]
  · rw [if_neg p]
    by_cases q : pb < M
    · rw [if_pos q, if_pos hacc, if_pos (Or.inr q)]
    · rw [if_neg q, if_neg (by omega), List.append_nil]

theorem td_loop {E : Nat → Nat → Bool} {N M : Nat} (hN : N ≤ 1000000) (hM : M ≤ 1000000) (l : List Dg) (hl : l.length ≤ 1000000) (t : List Dg) : ∀ (i : Nat) (acc : List S64) (pa pb : Int), l.drop i = t → i ≤ l.length → 0 ≤ pa → 0 ≤ pb → Chain E N M t pa pb → acc.length ≤ i → ∀ k, t.length < k →
    xdiff_lcs_lcs_toDiffs.l0 k N M acc pa pb (l.map toS) ((l.map toS).length : Int) (i : Int) = some (acc ++ dif N M t pa pb) := by
  induction t with
  | nil =>
    intro i acc pa pb ht hi h0 h1 hc ha k hk
    obtain ⟨k, rfl⟩ : ∃ m, k = m + 1 := ⟨k - 1, by simp at hk; omega⟩
    have hi2 : l.length ≤ i := by
      rcases Nat.lt_or_ge i l.length with h | h
      · rw [List.drop_eq_getElem_cons h] at ht; cases ht
      · exact h
    exact td_last k N M acc pa pb _ i (by simpa using hi2) (by omega)
  | cons d t ih =>
    intro i acc pa pb ht hi h0 h1 hc ha k hk
    obtain ⟨c1, c2, c3, c4, c5, _, c6⟩ := hc
    obtain ⟨k, rfl⟩ : ∃ m, k = m + 1 := ⟨k - 1, by simp at hk; omega⟩
    obtain ⟨hi, hd, ht2⟩ := drop_cons ht
    have hr := rdS hd
    have hacc : acc.length < 4398046511104 := by omega
    have hkk : t.length < k := by simp at hk; omega
    have g1 : 0 ≤ d.x + d.len := by omega
    have g2 : 0 ≤ d.y + d.len := by omega
    have g3 : i + 1 ≤ l.length := by omega
    have e1 : wrap64 ((toS d).f0 + (toS d).f2) = (toS d).f0 + (toS d).f2 := by rw [show (toS d).f0 = d.x from rfl, show (toS d).f2 = d.len from rfl]; exact w64 (by omega) (by omega)
    have e2 : wrap64 ((toS d).f1 + (toS d).f2) = (toS d).f1 + (toS d).f2 := by rw [show (toS d).f1 = d.y from rfl, show (toS d).f2 = d.len from rfl]; exact w64 (by omega) (by omega)
    have e3 : wrap64 ((i : Int) + 1) = ((i + 1 : Nat) : Int) := by rw [w64 (by omega) (by omega)]; omega
    rw [td_step k N M acc pa pb (l.map toS) i (toS d) (by simpa using hi) hr hacc e1 e2 e3]
    clear e1 e2 e3
    have hlen : (acc ++ (if pa < (toS d).f0 ∨ pb < (toS d).f1 then [(⟨pa, (toS d).f0, pb, (toS d).f1⟩ : S64)] else [])).length ≤ i + 1 := by
      split <;> simp <;> omega
    have q1 : (toS d).f0 + (toS d).f2 = d.x + d.len := rfl
    have q2 : (toS d).f1 + (toS d).f2 = d.y + d.len := rfl
    rw [q1, q2, ih (i + 1) _ (d.x + d.len) (d.y + d.len) ht2 g3 g1 g2 c6 hlen k hkk, List.append_assoc, dif]
    rfl

theorem td_ev {E : Nat → Nat → Bool} {N M : Nat} (hN : N ≤ 1000000) (hM : M ≤ 1000000) (l : List Dg) (hc : Chain E N M l 0 0) : xdiff_lcs_lcs_toDiffs.f (l.length + 1) (l.map toS) N M = some (dif N M l 0 0) := by
  have h := chain_end l 0 0 hc
  have h2 := chain_le l 0 0 (by omega) (by omega) hc
  have := td_loop hN hM l (by omega) l 0 [] 0 0 rfl (by omega) (by omega) (by omega) hc (by simp) (l.length + 1) (by omega)
  exact this
end Go.Proofs.Ytonajgipkpnpoaa.QFnBackwardLead
