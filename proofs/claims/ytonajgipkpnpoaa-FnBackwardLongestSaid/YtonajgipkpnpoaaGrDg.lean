/- The common pieces in memory. -/
import Derived.Test.YtonajgipkpnpoaaGrSt
namespace Go.Proofs.Ytonajgipkpnpoaa.Gr
open Go.RowKit Go.Proofs.YtonajgipkpnpoaaW.PrintWords Go.Myers

def cellsD (d : Dg) : List Value := [.int .i64 d.x, .int .i64 d.y, .int .i64 d.len]
def rowD (l : List Dg) : List Value := l.flatMap cellsD

theorem rowD_length : ∀ l : List Dg, (rowD l).length = l.length * 3
  | [] => rfl
  | d :: t => by
    have := rowD_length t
    simp only [rowD, List.flatMap_cons, List.length_append, cellsD, List.length_cons, List.length_nil] at *
    omega

theorem rowD_append (a b : List Dg) : rowD (a ++ b) = rowD a ++ rowD b := by simp [rowD]

theorem rowD_get : ∀ (l : List Dg) (i : Nat) (d : Dg), l[i]? = some d → (rowD l)[i * 3]? = some (.int .i64 d.x) ∧ (rowD l)[i * 3 + 1]? = some (.int .i64 d.y) ∧ (rowD l)[i * 3 + 2]? = some (.int .i64 d.len)
  | [], i, d, h => by simp at h
  | a :: t, 0, d, h => by
    simp at h; subst h
    simp [rowD, cellsD]
  | a :: t, i + 1, d, h => by
    have := rowD_get t i d (by simpa using h)
    have e : rowD (a :: t) = cellsD a ++ rowD t := by simp [rowD]
    rw [e, List.getElem?_append_right (by simp [cellsD]; omega), List.getElem?_append_right (by simp [cellsD]; omega), List.getElem?_append_right (by simp [cellsD]; omega)]
    simp only [cellsD, List.length_cons, List.length_nil]
    rw [show (i + 1) * 3 - (0 + 1 + 1 + 1) = i * 3 by omega, show (i + 1) * 3 + 1 - (0 + 1 + 1 + 1) = i * 3 + 1 by omega, show (i + 1) * 3 + 2 - (0 + 1 + 1 + 1) = i * 3 + 2 by omega]
    exact this

/-- a list of common pieces of the call's own -/
def DgRow (W : World) (B : Nat) (v : Value) (l : List Dg) : Prop := W.ownsRow B 76 3 v l.length (rowD l)

theorem DgRow.below {W W' : World} {B : Nat} {v : Value} {l : List Dg} (h : DgRow W B v l) (hb : Below W.heap.size W W') : DgRow W' B v l := own_move h (fun k hk => hb.block k (own_lt h k hk))

theorem own_set {W : World} {B e size g n cap : Nat} {xs : List Value} (h : W.ownsRow B e size (.slice (some ⟨g, 0, none⟩) n cap) n xs) (i : Nat) (u : Value) : (W.setCell ⟨g, i, none⟩ u).ownsRow B e size (.slice (some ⟨g, 0, none⟩) n cap) n (xs.set i u) := by
  refine ⟨by simpa using h.1, ?_⟩
  rcases h.2 with ⟨h0, _⟩ | ⟨g', cap', cur, hv, hB, hh, h1, h2, h3, h4⟩
  · cases h0
  · have : g = g' := by injection hv with hv; injection hv with hv; injection hv with hv
    subst this
    exact Or.inr ⟨g, cap', cur.setIfInBounds i u, hv, hB, blk_set hh i u, h1, h2, by simpa using h3, by rw [Array.toList_setIfInBounds, List.take_set, h4]⟩

theorem own_at {W : World} {B e size g n cap : Nat} {xs : List Value} (h : W.ownsRow B e size (.slice (some ⟨g, 0, none⟩) n cap) n xs) (i : Nat) (u : Value) (hi : xs[i]? = some u) : W.cell? ⟨g, i, none⟩ = some u ∧ W.frozen? ⟨g, i, none⟩ = false := by
  rcases h.2 with ⟨h0, _⟩ | ⟨g', cap', cur, hv, hB, hh, h1, h2, h3, h4⟩
  · cases h0
  · have : g = g' := by injection hv with hv; injection hv with hv; injection hv with hv
    subst this
    refine ⟨(blk_cell hh i).trans ?_, blk_frozen hh i⟩
    rw [← h4, List.getElem?_take] at hi
    split at hi
    · rwa [Array.getElem?_toList] at hi
    · cases hi

theorem appendD_last : ∀ (l : List Dg) (d : Dg) (x y : Int), appendD (l ++ [d]) x y = if d.x + d.len = x ∧ d.y + d.len = y then l ++ [⟨d.x, d.y, d.len + 1⟩] else l ++ [d, ⟨x, y, 1⟩]
  | [], d, x, y => by simp [appendD]
  | [a], d, x, y => by
    simp only [List.singleton_append, appendD]
    split <;> rfl
  | a :: b :: t, d, x, y => by
    have := appendD_last (b :: t) d x y
    simp only [List.cons_append] at this ⊢
    rw [appendD, this]
    split <;> rfl

theorem info76 : (Try.prog.info? 76).map (fun i => (i.zero, i.size, i.bytes)) = some (some (.agg #[.int .i64 0, .int .i64 0, .int .i64 0]), 3, 24) := by kernel_rfl

set_option maxRecDepth 100000 in
theorem lcs_append (W : World) (B : Nat) (hB : B ≤ W.heap.size) (v : Value) (l : List Dg) (h : DgRow W B v l) (x y : Int) (hl : l.length < 1099511627776) (hb : ∀ d ∈ l, 0 ≤ d.x ∧ d.x ≤ 1099511627776 ∧ 0 ≤ d.y ∧ d.y ≤ 1099511627776 ∧ 0 ≤ d.len ∧ d.len ≤ 1099511627776) :
    Calls Try.prog 44 #[v, .int .i64 x, .int .i64 y] W fun e w' => ∃ v', e = .returned v' ∧ DgRow w' B v' (appendD l x y) ∧ Below B W w' := by
  obtain ⟨A0, cap, rfl⟩ := own_slice h
  obtain ⟨i0, hi, hz0, hz1, hz2⟩ := info_parts info76
  have H := Aside0.mk h
  have hnew : ∀ W1 : World, ∀ j u, [Value.int .i64 x, .int .i64 y, .int .i64 1][j]? = some u → (W1.alloc (.cells #[.int .i64 x, .int .i64 y, .int .i64 1] 76)).cell? ((⟨W1.heap.size, 0, none⟩ : Addr).add j) = some u := fun W1 j u hu => by
    rw [add_plain, blk_cell (t := 76) (cs := #[.int .i64 x, .int .i64 y, .int .i64 1]) (by rw [show (W1.alloc (.cells #[.int .i64 x, .int .i64 y, .int .i64 1] 76)).heap = W1.heap.push (.cells #[.int .i64 x, .int .i64 y, .int .i64 1] 76) from rfl]; simp)]
    simpa using hu
  have HN := Aside0.mk hnew
  clear hnew
  rcases List.eq_nil_or_concat l with rfl | ⟨t, d, rfl⟩
  · clear h hb
    go_enter Try.func44, Try.ntmps44
    go_wp2_with (at_builtin; refine wpList_append_own _ rfl (.tmp 48) (.tmp 52) 71 rfl B 76 i0 _ 3 24 Try.underlying71 hi hz0 hz1 hz2 rfl (by decide) _ _ _ rfl (own_move H.out (fun k hk => Below.heap_alloc _ _ k (own_lt H.out k hk))) ⟨W.heap.size, 0, none⟩ 1 1 [.int .i64 x, .int .i64 y, .int .i64 1] rfl rfl ?h1 ?h2 ?h3 ?h4 ?h5 ?_; (case h1 => exact HN.out _); (case h2 => intro u hu; simp at hu; rcases hu with rfl | rfl | rfl <;> rfl); (case h3 => unfold maxLen; simp); (case h4 => simp); (case h5 => simp; omega); intro v1 w1 hown hgr _; have HG1 := Aside0.mk hgr; have HOW := Aside0.mk hown; clear hown hgr)
    go_ret
    refine ⟨v1, rfl, HOW.out, (Below.alloc (Below.refl B W) hB _).grown HG1.out (by simp; omega) (fun k hk => own_base H.out k hk)⟩
  · rw [List.concat_eq_append] at *
    have hd := hb d (by simp)
    have hlen : (t ++ [d]).length = t.length + 1 := by simp
    have hrow : rowD (t ++ [d]) = rowD t ++ cellsD d := by simp [rowD]
    have hg := rowD_get (t ++ [d]) t.length d (by simp)
    have hap := appendD_last t d x y
    rw [hlen] at hl
    have ht1 : t.length < 1099511627776 := by omega
    unfold DgRow at h
    rw [hlen] at h
    have hA : ∃ g, A0 = some ⟨g, 0, none⟩ := by
      rcases h.2 with ⟨h0, h1⟩ | ⟨g, cap', cur, hv, _⟩
      · omega
      · injection hv with hv
        exact ⟨g, hv⟩
    obtain ⟨g, rfl⟩ := hA
    obtain ⟨c0, f0⟩ := own_at h _ _ hg.1
    obtain ⟨c1, f1⟩ := own_at h _ _ hg.2.1
    obtain ⟨c2, f2⟩ := own_at h _ _ hg.2.2
    have hset := own_set h (t.length * 3 + 2) (.int .i64 (d.len + 1))
    have hgB : B ≤ g := own_base h g rfl
    have H2 := Aside0.mk h
    have HS := Aside0.mk hset
    have HAP := Lib.hid hap
    have HR := Lib.hid hrow
    have HLN := Lib.hid hlen
    clear h hset hap hg hb hrow hl
    rw [hlen]
    clear hlen
    by_cases ha : d.x + d.len = x
    · by_cases hb2 : d.y + d.len = y
      · subst ha hb2
        go_enter Try.func44, Try.ntmps44
        go_wp2_with fail
        go_quiet (fail)
        go_wp2_with fail
        go_ret
        refine ⟨_, rfl, ?_, ?_⟩
        · rw [HAP.out, if_pos (by simp)]
          have h3 := pw_own_drewN HS.out nq
          unfold DgRow
          rw [show (t ++ [(⟨d.x, d.y, d.len + 1⟩ : Dg)]).length = t.length + 1 by simp, show rowD (t ++ [(⟨d.x, d.y, d.len + 1⟩ : Dg)]) = (rowD (t ++ [d])).set (t.length * 3 + 2) (.int .i64 (d.len + 1)) by
            rw [HR.out, List.set_append_right _ _ (by rw [rowD_length]; omega), rowD_length]
            simp [rowD, cellsD]]
          exact h3
        · exact Below.setCell (pw_below_drewN (Below.refl B W) _) hgB _
      · have hf : decide (d.y + d.len = y) = false := decide_eq_false hb2
        have hf2 : (d.y + d.len == y) = false := by simpa using hb2
        subst ha
        go_enter Try.func44, Try.ntmps44
        go_wp2_with fail
        go_quiet (fail)
        go_wp2_with (at_builtin; refine wpList_append_own _ rfl (.tmp 48) (.tmp 52) 71 rfl B 76 i0 _ 3 24 Try.underlying71 hi hz0 hz1 hz2 rfl (by decide) _ _ _ rfl (own_move H2.out (fun k hk => Below.heap_alloc _ _ k (own_lt H2.out k hk))) ⟨W.heap.size, 0, none⟩ 1 1 [.int .i64 (d.x + d.len), .int .i64 y, .int .i64 1] rfl rfl ?h1 ?h2 ?h3 ?h4 ?h5 ?_; (case h1 => exact HN.out _); (case h2 => intro u hu; simp at hu; rcases hu with rfl | rfl | rfl <;> rfl); (case h3 => unfold maxLen; omega); (case h4 => omega); (case h5 => simp; omega); intro v1 w1 hown hgr _; have HG1 := Aside0.mk hgr; have HOW := Aside0.mk hown; clear hown hgr)
        go_ret
        rw [if_neg (fun h => hb2 h.2)] at HAP
        refine ⟨v1, rfl, ?_, ?_⟩
        · rw [HAP.out]
          have := HOW.out
          unfold DgRow
          rw [show (t ++ [d, ⟨d.x + d.len, y, 1⟩]).length = t.length + 1 + 1 by simp, show rowD (t ++ [d, ⟨d.x + d.len, y, 1⟩]) = rowD (t ++ [d]) ++ [.int .i64 (d.x + d.len), .int .i64 y, .int .i64 1] by simp [rowD, cellsD]]
          exact this
        · exact (Below.alloc (pw_below_drewN (Below.refl B W) _) hB _).grown HG1.out (by simp; omega) (fun k hk => own_base H2.out k hk)
    · have hf : decide (d.x + d.len = x) = false := decide_eq_false ha
      have hf2 : (d.x + d.len == x) = false := by simpa using ha
      go_enter Try.func44, Try.ntmps44
      go_wp2_with fail
      go_quiet (fail)
      go_wp2_with (at_builtin; refine wpList_append_own _ rfl (.tmp 48) (.tmp 52) 71 rfl B 76 i0 _ 3 24 Try.underlying71 hi hz0 hz1 hz2 rfl (by decide) _ _ _ rfl (own_move H2.out (fun k hk => Below.heap_alloc _ _ k (own_lt H2.out k hk))) ⟨W.heap.size, 0, none⟩ 1 1 [.int .i64 x, .int .i64 y, .int .i64 1] rfl rfl ?h1 ?h2 ?h3 ?h4 ?h5 ?_; (case h1 => exact HN.out _); (case h2 => intro u hu; simp at hu; rcases hu with rfl | rfl | rfl <;> rfl); (case h3 => unfold maxLen; omega); (case h4 => omega); (case h5 => simp; omega); intro v1 w1 hown hgr _; have HG1 := Aside0.mk hgr; have HOW := Aside0.mk hown; clear hown hgr)
      go_ret
      rw [if_neg (fun h => ha h.1)] at HAP
      refine ⟨v1, rfl, ?_, ?_⟩
      · rw [HAP.out]
        have := HOW.out
        unfold DgRow
        rw [show (t ++ [d, ⟨x, y, 1⟩]).length = t.length + 1 + 1 by simp, show rowD (t ++ [d, ⟨x, y, 1⟩]) = rowD (t ++ [d]) ++ [.int .i64 x, .int .i64 y, .int .i64 1] by simp [rowD, cellsD]]
        exact this
      · exact (Below.alloc (pw_below_drewN (Below.refl B W) _) hB _).grown HG1.out (by simp; omega) (fun k hk => own_base H2.out k hk)
end Go.Proofs.Ytonajgipkpnpoaa.Gr
