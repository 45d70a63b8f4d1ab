/- LinesOf: the lines of a text. -/
import Derived.Test.YtonajgipkpnpoaaDoorSpl
import Derived.Test.YtonajgipkpnpoaaDoorCHk
import Derived.Test.YtonajgipkpnpoaaDoorCRd
import Derived.Test.YtonajgipkpnpoaaDoorCUni
import Derived.Test.YtonajgipkpnpoaaDoorPLn
namespace Go.Proofs.YtonajgipkpnpoaaDoor.Un
open Go.RowKit Go.Proofs.YtonajgipkpnpoaaDoorW.PrintWords Go.Proofs.YtonajgipkpnpoaaDoorW.PrintLast Go.Proofs.YtonajgipkpnpoaaDoorW.PrintMore Go.Uni
open Go.Proofs.YtonajgipkpnpoaaDoor.PFnToUnifiedReads
set_option linter.unusedVariables false
set_option linter.unusedSimpArgs false

theorem linesOf_loop (s : ByteArray) (hs : s.size ≤ 1099511627776) : ∀ (n f i k : Nat), s.size - i = n → n < k → f ≤ i → i ≤ s.size → Whole (s.data.toList.take f) → NoNl (btw s.data.toList f i) →
    spec_LinesOf.l0 k s ((splitL (s.data.toList.take f)).map mkS) (f : Int) (s.size : Int) (i : Int) = some ((splitL s.data.toList).map mkS)
  | 0, f, i, k + 1, hn, hk, hf, hi, hw, hno => by
    have hl := data_length s
    obtain rfl : i = s.size := by omega
    have hlen := splitL_length_le (s.data.toList.take f)
    rw [List.length_take] at hlen
    unfold spec_LinesOf.l0
    rw [if_neg (by omega)]
    by_cases hfs : f < s.size
    · rw [if_pos (by omega), if_pos (by omega), if_pos (by omega), if_pos (by rw [List.length_map]; omega)]
      have h1 : splitL s.data.toList = splitL (s.data.toList.take f) ++ [s.data.toList.drop f] := by
        rw [lp_split (p := f) (Or.inl hw)]
        congr 1
        have h2 : btw s.data.toList f s.size = s.data.toList.drop f := by
          unfold btw; rw [List.take_of_length_le (by omega)]
        rw [h2] at hno
        exact splitL_rest _ hno (by intro h3; have := congrArg List.length h3; rw [List.length_drop] at this; simp at this; omega)
      rw [h1, List.map_append, Int.toNat_natCast, ext_mkS, List.take_of_length_le (i := s.size) (l := s.data.toList) (by omega)]
      rfl
    · rw [if_neg (by omega)]
      rw [List.take_of_length_le (by omega)]
  | n + 1, f, i, k + 1, hn, hk, hf, hi, hw, hno => by
    have hl := data_length s
    have hi2 : i < s.data.toList.length := by omega
    have hlen := splitL_length_le (s.data.toList.take f)
    rw [List.length_take] at hlen
    have e1 : wrap64 ((i : Int) + 1) = ((i + 1 : Nat) : Int) := by rw [Rd.w64 (by omega) (by omega)]; omega
    unfold spec_LinesOf.l0
    rw [if_pos (by omega), if_pos (by omega), if_pos (by omega), Rd.bt_get s i hi2, e1]
    by_cases hc : s.data.toList[i] = 10
    · have hc2 : ((s.data.toList[i].toNat : Nat) : Int) = 10 := by rw [hc]; rfl
      obtain ⟨h1, h2⟩ := split_to hf hi2 hw hno hc
      rw [if_pos hc2, if_pos (by omega), if_pos (by omega), if_pos (by omega), if_pos (by rw [List.length_map]; omega), Int.toNat_natCast, Int.toNat_natCast, ext_mkS]
      have h3 : (splitL (s.data.toList.take f)).map mkS ++ [mkS ((s.data.toList.take (i + 1)).drop f)] = (splitL (s.data.toList.take (i + 1))).map mkS := by
        rw [h1, List.map_append]; rfl
      rw [h3]
      refine linesOf_loop s hs n (i + 1) (i + 1) k (by omega) (by omega) (Nat.le_refl _) (by omega) h2 ?_
      unfold btw
      rw [List.drop_eq_nil_of_le (by rw [List.length_take]; omega)]
      intro c h; cases h
    · have hc2 : ¬ ((s.data.toList[i].toNat : Nat) : Int) = 10 := by
        intro h
        apply hc
        have h5 : s.data.toList[i].toNat = 10 := by omega
        exact UInt8.toNat_inj.1 h5
      rw [if_neg hc2]
      refine linesOf_loop s hs n f (i + 1) k (by omega) (by omega) (by omega) (by omega) hw ?_
      rw [btw_snoc hf hi2]
      intro c h
      rcases List.mem_append.1 h with h | h
      · exact hno c h
      · rw [List.mem_singleton.1 h]; exact hc

theorem linesOf_ev (s : ByteArray) (hs : s.size ≤ 1099511627776) (k : Nat) (hk : s.size < k) : spec_LinesOf.f k s = some ((splitL s.data.toList).map mkS) := by
  unfold spec_LinesOf.f
  have := linesOf_loop s hs s.size 0 0 k rfl hk (Nat.le_refl _) (Nat.zero_le _) (by rw [List.take_zero]; exact whole_nil) (by unfold btw; simp; intro c h; cases h)
  rw [List.take_zero] at this
  exact this

/-- a row of strings, as a row of cells -/
theorem own_of_R {w : World} {base : Nat} {ok : Nat → Prop} {v : Value} {L : List Bs} (h : Kd.R Kd.string 9 w base ok v (L.map mkS)) : w.ownsRow base 9 1 v L.length (rowS L) := by
  obtain ⟨_, inner, ho, hr⟩ := h
  have hl : inner = rowS L := by
    apply List.ext_getElem?
    intro j
    rcases Nat.lt_or_ge j L.length with hj | hj
    · have h1 := hr.2 j (mkS L[j]) (by rw [List.getElem?_map, List.getElem?_eq_getElem hj]; rfl)
      have h2 : (inner.drop (j * 1)).take 1 = [.string (mkS L[j])] := h1
      have h3 : inner[j]? = ((inner.drop (j * 1)).take 1)[0]? := by simp
      rw [h3, h2, rowS_get hj]; rfl
    · have h1 := hr.1
      rw [List.length_map] at h1
      rw [List.getElem?_eq_none (by show inner.length ≤ j; rw [h1]; show L.length * 1 ≤ j; omega), List.getElem?_eq_none (by rw [rowS_length]; exact hj)]
  rw [hl, List.length_map] at ho
  exact ho
end Go.Proofs.YtonajgipkpnpoaaDoor.Un
