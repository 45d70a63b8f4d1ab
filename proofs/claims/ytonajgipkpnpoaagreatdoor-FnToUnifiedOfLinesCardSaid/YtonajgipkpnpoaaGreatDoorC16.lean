/- The common pieces in memory. The way back: backwardlcs. -/
import Derived.Test.YtonajgipkpnpoaaGreatDoorC15
import Derived.Test.YtonajgipkpnpoaaGreatDoorC00
namespace Go.Proofs.YtonajgipkpnpoaaGreatDoor.Gr
open Go.RowKit Go.Proofs.YtonajgipkpnpoaaGreatDoorW.PrintWords Go.Myers
def cellsD (d : Dg) : List Value := [.int .i64 d.x, .int .i64 d.y, .int .i64 d.len]
def rowD (l : List Dg) : List Value := l.flatMap cellsD
theorem rowD_length : ∀ l : List Dg, (rowD l).length = l.length * 3
  | [] => rfl
  | d :: t => by
    have := rowD_length t
    simp only [rowD, List.flatMap_cons, List.length_append, cellsD, List.length_cons, List.length_nil] at *
    omega
theorem rowD_append (a b : List Dg) : rowD (a ++ b) = rowD a ++ rowD b := by simp [rowD]
theorem rowD_get : ∀ (l : List Dg) (i : Nat) (d : Dg), l[i]? = some d → (rowD l)[i * 3]? = some (.int .i64 d.x) ∧ (rowD l)[i * 3 + 1]? = some (.int .i64 d.y) ∧ (rowD l)[i * 3 + 2]? = some (.int .i64 d.len)
  | [], i, d, h => by simp at h
  | a :: t, 0, d, h => by
    simp at h; subst h
    simp [rowD, cellsD]
  | a :: t, i + 1, d, h => by
    have := rowD_get t i d (by simpa using h)
    have e : rowD (a :: t) = cellsD a ++ rowD t := by simp [rowD]
    rw [e, List.getElem?_append_right (by simp [cellsD]; omega), List.getElem?_append_right (by simp [cellsD]; omega), List.getElem?_append_right (by simp [cellsD]; omega)]
    simp only [cellsD, List.length_cons, List.length_nil]
    rw [show (i + 1) * 3 - (0 + 1 + 1 + 1) = i * 3 by omega, show (i + 1) * 3 + 1 - (0 + 1 + 1 + 1) = i * 3 + 1 by omega, show (i + 1) * 3 + 2 - (0 + 1 + 1 + 1) = i * 3 + 2 by omega]
    exact this
def DgRow (W : World) (B : Nat) (v : Value) (l : List Dg) : Prop := W.ownsRow B 162 3 v l.length (rowD l)
theorem DgRow.below {W W' : World} {B : Nat} {v : Value} {l : List Dg} (h : DgRow W B v l) (hb : Below W.heap.size W W') : DgRow W' B v l := own_move h (fun k hk => hb.block k (own_lt h k hk))
theorem own_set {W : World} {B e size g n cap : Nat} {xs : List Value} (h : W.ownsRow B e size (.slice (some ⟨g, 0, none⟩) n cap) n xs) (i : Nat) (u : Value) : (W.setCell ⟨g, i, none⟩ u).ownsRow B e size (.slice (some ⟨g, 0, none⟩) n cap) n (xs.set i u) := by
  refine ⟨by simpa using h.1, ?_⟩
  rcases h.2 with ⟨h0, _⟩ | ⟨g', cap', cur, hv, hB, hh, h1, h2, h3, h4⟩
  · cases h0
  · have : g = g' := by injection hv with hv; injection hv with hv; injection hv with hv
    subst this
    exact Or.inr ⟨g, cap', cur.setIfInBounds i u, hv, hB, blk_set hh i u, h1, h2, by simpa using h3, by rw [Array.toList_setIfInBounds, List.take_set, h4]⟩
theorem own_at {W : World} {B e size g n cap : Nat} {xs : List Value} (h : W.ownsRow B e size (.slice (some ⟨g, 0, none⟩) n cap) n xs) (i : Nat) (u : Value) (hi : xs[i]? = some u) : W.cell? ⟨g, i, none⟩ = some u ∧ W.frozen? ⟨g, i, none⟩ = false := by
  rcases h.2 with ⟨h0, _⟩ | ⟨g', cap', cur, hv, hB, hh, h1, h2, h3, h4⟩
  · cases h0
  · have : g = g' := by injection hv with hv; injection hv with hv; injection hv with hv
    subst this
    refine ⟨(blk_cell hh i).trans ?_, blk_frozen hh i⟩
    rw [← h4, List.getElem?_take] at hi
    split at hi
    · rwa [Array.getElem?_toList] at hi
    · cases hi
theorem appendD_last : ∀ (l : List Dg) (d : Dg) (x y : Int), appendD (l ++ [d]) x y = if d.x + d.len = x ∧ d.y + d.len = y then l ++ [⟨d.x, d.y, d.len + 1⟩] else l ++ [d, ⟨x, y, 1⟩]
  | [], d, x, y => by simp [appendD]
  | [a], d, x, y => by
    simp only [List.singleton_append, appendD]
    split <;> rfl
  | a :: b :: t, d, x, y => by
    have := appendD_last (b :: t) d x y
    simp only [List.cons_append] at this ⊢
    rw [appendD, this]
    split <;> rfl
theorem info76 : (Tryz.prog.info? 162).map (fun i => (i.zero, i.size, i.bytes)) = some (some (.agg #[.int .i64 0, .int .i64 0, .int .i64 0]), 3, 24) := by kernel_rfl
set_option maxRecDepth 100000 in
theorem lcs_append (W : World) (B : Nat) (hB : B ≤ W.heap.size) (v : Value) (l : List Dg) (h : DgRow W B v l) (x y : Int) (hl : l.length < 1099511627776) (hb : ∀ d ∈ l, 0 ≤ d.x ∧ d.x ≤ 1099511627776 ∧ 0 ≤ d.y ∧ d.y ≤ 1099511627776 ∧ 0 ≤ d.len ∧ d.len ≤ 1099511627776) :
    Calls Tryz.prog 102 #[v, .int .i64 x, .int .i64 y] W fun e w' => ∃ v', e = .returned v' ∧ DgRow w' B v' (appendD l x y) ∧ Below B W w' := by
  obtain ⟨A0, cap, rfl⟩ := own_slice h
  obtain ⟨i0, hi, hz0, hz1, hz2⟩ := info_parts info76
  have H := Aside0.mk h
  have hnew : ∀ W1 : World, ∀ j u, [Value.int .i64 x, .int .i64 y, .int .i64 1][j]? = some u → (W1.alloc (.cells #[.int .i64 x, .int .i64 y, .int .i64 1] 162)).cell? ((⟨W1.heap.size, 0, none⟩ : Addr).add j) = some u := fun W1 j u hu => by
    rw [add_plain, blk_cell (t := 162) (cs := #[.int .i64 x, .int .i64 y, .int .i64 1]) (by rw [show (W1.alloc (.cells #[.int .i64 x, .int .i64 y, .int .i64 1] 162)).heap = W1.heap.push (.cells #[.int .i64 x, .int .i64 y, .int .i64 1] 162) from rfl]; simp)]
    simpa using hu
  have HN := Aside0.mk hnew
  clear hnew
  rcases List.eq_nil_or_concat l with rfl | ⟨t, d, rfl⟩
  · clear h hb
    go_enter Tryz.func102, Tryz.ntmps102
    go_wp2_with (at_builtin; refine wpList_append_own _ rfl (.tmp 48) (.tmp 52) 115 rfl B 162 i0 _ 3 24 Tryz.underlying115 hi hz0 hz1 hz2 rfl (by decide) _ _ _ rfl (own_move H.out (fun k hk => Below.heap_alloc _ _ k (own_lt H.out k hk))) ⟨W.heap.size, 0, none⟩ 1 1 [.int .i64 x, .int .i64 y, .int .i64 1] rfl rfl ?h1 ?h2 ?h3 ?h4 ?h5 ?_; (case h1 => exact HN.out _); (case h2 => intro u hu; simp at hu; rcases hu with rfl | rfl | rfl <;> rfl); (case h3 => unfold maxLen; simp); (case h4 => simp); (case h5 => simp; omega); intro v1 w1 hown hgr _; have HG1 := Aside0.mk hgr; have HOW := Aside0.mk hown; clear hown hgr)
    go_ret
    refine ⟨v1, rfl, HOW.out, (Below.alloc (Below.refl B W) hB _).grown HG1.out (by simp; omega) (fun k hk => own_base H.out k hk)⟩
  · rw [List.concat_eq_append] at *
    have hd := hb d (by simp)
    have hlen : (t ++ [d]).length = t.length + 1 := by simp
    have hrow : rowD (t ++ [d]) = rowD t ++ cellsD d := by simp [rowD]
    have hg := rowD_get (t ++ [d]) t.length d (by simp)
    have hap := appendD_last t d x y
    rw [hlen] at hl
    have ht1 : t.length < 1099511627776 := by omega
    unfold DgRow at h
    rw [hlen] at h
    have hA : ∃ g, A0 = some ⟨g, 0, none⟩ := by
      rcases h.2 with ⟨h0, h1⟩ | ⟨g, cap', cur, hv, _⟩
      · omega
      · injection hv with hv
        exact ⟨g, hv⟩
    obtain ⟨g, rfl⟩ := hA
    obtain ⟨c0, f0⟩ := own_at h _ _ hg.1
    obtain ⟨c1, f1⟩ := own_at h _ _ hg.2.1
    obtain ⟨c2, f2⟩ := own_at h _ _ hg.2.2
    have hset := own_set h (t.length * 3 + 2) (.int .i64 (d.len + 1))
    have hgB : B ≤ g := own_base h g rfl
    have H2 := Aside0.mk h
    have HS := Aside0.mk hset
    have HAP := Lib.hid hap
    have HR := Lib.hid hrow
    have HLN := Lib.hid hlen
    clear h hset hap hg hb hrow hl
    rw [hlen]
    clear hlen
    by_cases ha : d.x + d.len = x
    · by_cases hb2 : d.y + d.len = y
      · subst ha hb2
        go_enter Tryz.func102, Tryz.ntmps102
        go_wp2_with fail
        go_quiet (fail)
        go_wp2_with fail
        go_ret
        refine ⟨_, rfl, ?_, ?_⟩
        · rw [HAP.out, if_pos (by simp)]
          have h3 := pw_own_drewN HS.out nq
          unfold DgRow
          rw [show (t ++ [(⟨d.x, d.y, d.len + 1⟩ : Dg)]).length = t.length + 1 by simp, show rowD (t ++ [(⟨d.x, d.y, d.len + 1⟩ : Dg)]) = (rowD (t ++ [d])).set (t.length * 3 + 2) (.int .i64 (d.len + 1)) by
            rw [HR.out, List.set_append_right _ _ (by rw [rowD_length]; omega), rowD_length]
            simp [rowD, cellsD]]
          exact h3
        · exact Below.setCell (pw_below_drewN (Below.refl B W) _) hgB _
      · have hf : decide (d.y + d.len = y) = false := decide_eq_false hb2
        have hf2 : (d.y + d.len == y) = false := by simpa using hb2
        subst ha
        go_enter Tryz.func102, Tryz.ntmps102
        go_wp2_with fail
        go_quiet (fail)
        go_wp2_with (at_builtin; refine wpList_append_own _ rfl (.tmp 48) (.tmp 52) 115 rfl B 162 i0 _ 3 24 Tryz.underlying115 hi hz0 hz1 hz2 rfl (by decide) _ _ _ rfl (own_move H2.out (fun k hk => Below.heap_alloc _ _ k (own_lt H2.out k hk))) ⟨W.heap.size, 0, none⟩ 1 1 [.int .i64 (d.x + d.len), .int .i64 y, .int .i64 1] rfl rfl ?h1 ?h2 ?h3 ?h4 ?h5 ?_; (case h1 => exact HN.out _); (case h2 => intro u hu; simp at hu; rcases hu with rfl | rfl | rfl <;> rfl); (case h3 => unfold maxLen; omega); (case h4 => omega); (case h5 => simp; omega); intro v1 w1 hown hgr _; have HG1 := Aside0.mk hgr; have HOW := Aside0.mk hown; clear hown hgr)
        go_ret
        rw [if_neg (fun h => hb2 h.2)] at HAP
        refine ⟨v1, rfl, ?_, ?_⟩
        · rw [HAP.out]
          have := HOW.out
          unfold DgRow
          rw [show (t ++ [d, ⟨d.x + d.len, y, 1⟩]).length = t.length + 1 + 1 by simp, show rowD (t ++ [d, ⟨d.x + d.len, y, 1⟩]) = rowD (t ++ [d]) ++ [.int .i64 (d.x + d.len), .int .i64 y, .int .i64 1] by simp [rowD, cellsD]]
          exact this
        · exact (Below.alloc (pw_below_drewN (Below.refl B W) _) hB _).grown HG1.out (by simp; omega) (fun k hk => own_base H2.out k hk)
    · have hf : decide (d.x + d.len = x) = false := decide_eq_false ha
      have hf2 : (d.x + d.len == x) = false := by simpa using ha
      go_enter Tryz.func102, Tryz.ntmps102
      go_wp2_with fail
      go_quiet (fail)
      go_wp2_with (at_builtin; refine wpList_append_own _ rfl (.tmp 48) (.tmp 52) 115 rfl B 162 i0 _ 3 24 Tryz.underlying115 hi hz0 hz1 hz2 rfl (by decide) _ _ _ rfl (own_move H2.out (fun k hk => Below.heap_alloc _ _ k (own_lt H2.out k hk))) ⟨W.heap.size, 0, none⟩ 1 1 [.int .i64 x, .int .i64 y, .int .i64 1] rfl rfl ?h1 ?h2 ?h3 ?h4 ?h5 ?_; (case h1 => exact HN.out _); (case h2 => intro u hu; simp at hu; rcases hu with rfl | rfl | rfl <;> rfl); (case h3 => unfold maxLen; omega); (case h4 => omega); (case h5 => simp; omega); intro v1 w1 hown hgr _; have HG1 := Aside0.mk hgr; have HOW := Aside0.mk hown; clear hown hgr)
      go_ret
      rw [if_neg (fun h => ha h.1)] at HAP
      refine ⟨v1, rfl, ?_, ?_⟩
      · rw [HAP.out]
        have := HOW.out
        unfold DgRow
        rw [show (t ++ [d, ⟨x, y, 1⟩]).length = t.length + 1 + 1 by simp, show rowD (t ++ [d, ⟨x, y, 1⟩]) = rowD (t ++ [d]) ++ [.int .i64 x, .int .i64 y, .int .i64 1] by simp [rowD, cellsD]]
        exact this
      · exact (Below.alloc (pw_below_drewN (Below.refl B W) _) hB _).grown HG1.out (by simp; omega) (fun k hk => own_base H2.out k hk)
theorem rowD_one {l : List Dg} : ∀ u ∈ rowD l, u.oneCell' = true := by
  intro u hu
  unfold rowD at hu
  obtain ⟨d, _, hd⟩ := List.mem_flatMap.1 hu
  simp only [cellsD, List.mem_cons, List.not_mem_nil, or_false] at hd
  rcases hd with rfl | rfl | rfl <;> rfl
theorem fresh_own {W1 : World} {B : Nat} (hB : B ≤ W1.heap.size) (x y z : Value) : (W1.alloc (.cells #[x, y, z] 162)).ownsRow B 162 3 (.slice (some ⟨W1.heap.size, 0, none⟩) 1 1) 1 [x, y, z] := by
  refine ⟨rfl, Or.inr ⟨W1.heap.size, 1, #[x, y, z], rfl, hB, ?_, Nat.le_refl _, by unfold maxLen; omega, rfl, rfl⟩⟩
  rw [show (W1.alloc (.cells #[x, y, z] 162)).heap = W1.heap.push (.cells #[x, y, z] 162) from rfl]; simp
set_option maxRecDepth 100000 in
theorem lcs_prepend (W : World) (B : Nat) (hB : B ≤ W.heap.size) (v : Value) (l : List Dg) (h : DgRow W B v l) (x y : Int) (hl : l.length < 1099511627776) (hx : 0 ≤ x ∧ x ≤ 1099511627776) (hy : 0 ≤ y ∧ y ≤ 1099511627776) (hb : ∀ d ∈ l, 0 ≤ d.x ∧ d.x ≤ 1099511627776 ∧ 0 ≤ d.y ∧ d.y ≤ 1099511627776 ∧ 0 ≤ d.len ∧ d.len ≤ 1099511627776) :
    Calls Tryz.prog 101 #[v, .int .i64 x, .int .i64 y] W fun e w' => ∃ v', e = .returned v' ∧ DgRow w' B v' (prependD l x y) ∧ Below B W w' := by
  obtain ⟨A0, cap, rfl⟩ := own_slice h
  obtain ⟨i0, hi, hz0, hz1, hz2⟩ := info_parts info76
  have hseg := seg_own h
  have HSG := Aside0.mk hseg
  have H := Aside0.mk h
  have HF : Aside0 (∀ (W1 : World) (n : Nat), W1.heap.size = n → B ≤ n → ((W1.alloc (.cells #[.int .i64 x, .int .i64 y, .int .i64 1] 162)).alloc (.cells #[.int .i64 x, .int .i64 y, .int .i64 1] 162)).ownsRow B 162 3 (.slice (some ⟨n + 1, 0, none⟩) 1 1) 1 [.int .i64 x, .int .i64 y, .int .i64 1]) := ⟨fun W1 n hn hBn => by
    have h1 : (W1.alloc (.cells #[.int .i64 x, .int .i64 y, .int .i64 1] 162)).heap.size = n + 1 := by rw [show (W1.alloc (.cells #[.int .i64 x, .int .i64 y, .int .i64 1] 162)).heap = W1.heap.push (.cells #[.int .i64 x, .int .i64 y, .int .i64 1] 162) from rfl]; simp [hn]
    have := fresh_own (W1 := W1.alloc (.cells #[.int .i64 x, .int .i64 y, .int .i64 1] 162)) (B := B) (by omega) (.int .i64 x) (.int .i64 y) (.int .i64 1)
    rwa [h1] at this⟩
  have HW : Aside0 (∀ W1 : World, (∀ a u, W.cell? a = some u → W1.cell? a = some u) → ∀ a u, W.cell? a = some u → ((W1.alloc (.cells #[.int .i64 x, .int .i64 y, .int .i64 1] 162)).alloc (.cells #[.int .i64 x, .int .i64 y, .int .i64 1] 162)).cell? a = some u) := ⟨fun W1 h1 a u hu => Lib.cell?_alloc_some _ (Lib.cell?_alloc_some _ (h1 a u hu))⟩
  have hfin : ∀ (w2 w1 : World) A1 cap1, Below B W w2 → w2.grownBy w1 (some (W.heap.size + 1)) → w1.ownsRow B 162 3 (.slice A1 (1 + l.length) cap1) (1 + l.length) ([.int .i64 x, .int .i64 y, .int .i64 1] ++ rowD l) → DgRow w1 B (.slice A1 (1 + l.length) cap1) (⟨x, y, 1⟩ :: l) ∧ Below B W w1 := fun w2 w1 A1 cap1 h2 hg ho => by
    refine ⟨?_, h2.grown hg (by have := h2.size; omega) (fun k hk => by injection hk with hk; omega)⟩
    unfold DgRow
    rw [show ((⟨x, y, 1⟩ : Dg) :: l).length = 1 + l.length by simp; omega, show rowD ((⟨x, y, 1⟩ : Dg) :: l) = [.int .i64 x, .int .i64 y, .int .i64 1] ++ rowD l by simp [rowD, cellsD]]
    exact ho
  have HFIN := Aside0.mk hfin
  clear hseg hfin
  cases l with
  | nil =>
    clear h hb
    go_enter Tryz.func101, Tryz.ntmps101
    go_wp2_with (at_builtin; go_loud (refine wpList_append_seg rfl (.tmp 50) (.tmp 51) 114 115 rfl B 162 i0 _ 3 24 Tryz.underlying114 Tryz.underlying115 hi hz0 hz1 hz2 rfl (by decide) _ 1 [.int .i64 x, .int .i64 y, .int .i64 1] rfl ?h0 0 (rowD []) (HSG.out.of_world ?hw) rowD_one ?h3 ?h4 ?h5 ?_; (case h0 => exact HF.out _ _ (by rfl) hB); (case hw => exact HW.out _ (by exact fun _ _ h => h)); (case h3 => unfold maxLen; omega); (case h4 => omega); (case h5 => simp; omega); intro A1 cap1 w1 hown hgr _; have HG1 := Aside0.mk hgr; have HOW := Aside0.mk hown; clear hown hgr))
    go_ret
    have := HFIN.out _ _ _ _ (Below.alloc (Below.alloc (Below.refl B W) hB _) (by simp; omega) _) HG1.out HOW.out
    exact ⟨_, rfl, this.1, this.2⟩
  | cons d t =>
    have hd := hb d (by simp)
    obtain ⟨g0, g1, g2⟩ := rowD_get (d :: t) 0 d rfl
    simp only [Nat.zero_mul, Nat.zero_add] at g0 g1 g2
    have hlen : (d :: t).length = t.length + 1 := rfl
    have hap : prependD (d :: t) x y = if d.x = x + 1 ∧ d.y = y + 1 then ⟨x, y, d.len + 1⟩ :: t else ⟨x, y, 1⟩ :: d :: t := rfl
    rw [hlen] at hl
    have ht1 : t.length < 1099511627776 := by omega
    unfold DgRow at h
    rw [hlen] at h
    have hA : ∃ g, A0 = some ⟨g, 0, none⟩ := by
      rcases h.2 with ⟨h0, h1⟩ | ⟨g, cap', cur, hv, _⟩
      · omega
      · injection hv with hv
        exact ⟨g, hv⟩
    obtain ⟨g, rfl⟩ := hA
    obtain ⟨c0, f0⟩ := own_at h _ _ g0
    obtain ⟨c1, f1⟩ := own_at h _ _ g1
    obtain ⟨c2, f2⟩ := own_at h _ _ g2
    have hset := own_set (own_set (own_set h 0 (.int .i64 x)) 1 (.int .i64 y)) 2 (.int .i64 (d.len + 1))
    have hgB : B ≤ g := own_base h g rfl
    have HS := Aside0.mk hset
    have HAP := Lib.hid hap
    have hg0 := own_lt h g rfl
    clear h hset hap g0 g1 g2 hb hl
    rw [hlen] at *
    clear hlen
    by_cases ha : d.x = x + 1
    · by_cases hb2 : d.y = y + 1
      · have t1 : (d.x == x + 1) = true := by simpa using ha
        have t2 : (d.y == y + 1) = true := by simpa using hb2
        have HA := Lib.hid ha
        have HB2 := Lib.hid hb2
        clear ha hb2
        go_enter Tryz.func101, Tryz.ntmps101
        go_wp2_with fail
        go_ret
        refine ⟨_, rfl, ?_, ?_⟩
        · rw [HAP.out, if_pos ⟨HA.out, HB2.out⟩]
          show DgRow _ B (.slice (some ⟨g, 0, none⟩) (t.length + 1) cap) _
          exact HS.out
        · exact Below.setCell (Below.setCell (Below.setCell (Below.refl B W) hgB _) hgB _) hgB _
      · have t1 : (d.x == x + 1) = true := by simpa using ha
        have t2 : (d.y == y + 1) = false := by simpa using hb2
        have HB2 := Lib.hid hb2
        clear ha hb2
        go_enter Tryz.func101, Tryz.ntmps101
        go_wp2_with (at_builtin; go_loud (refine wpList_append_seg rfl (.tmp 50) (.tmp 51) 114 115 rfl B 162 i0 _ 3 24 Tryz.underlying114 Tryz.underlying115 hi hz0 hz1 hz2 rfl (by decide) _ 1 [.int .i64 x, .int .i64 y, .int .i64 1] rfl ?h0 (t.length + 1) (rowD (d :: t)) (HSG.out.of_world ?hw) rowD_one ?h3 ?h4 ?h5 ?_; (case h0 => exact HF.out _ _ (by rfl) hB); (case hw => exact HW.out _ (by exact fun _ _ h => h)); (case h3 => unfold maxLen; omega); (case h4 => omega); (case h5 => simp; omega); intro A1 cap1 w1 hown hgr _; have HG1 := Aside0.mk hgr; have HOW := Aside0.mk hown; clear hown hgr))
        go_ret
        rw [HAP.out, if_neg (fun h => HB2.out h.2)]
        have := HFIN.out _ _ _ _ (Below.alloc (Below.alloc (Below.refl B W) hB _) (by simp; omega) _) HG1.out HOW.out
        exact ⟨_, rfl, this.1, this.2⟩
    · have t1 : (d.x == x + 1) = false := by simpa using ha
      have HA := Lib.hid ha
      clear ha
      go_enter Tryz.func101, Tryz.ntmps101
      go_wp2_with (at_builtin; go_loud (refine wpList_append_seg rfl (.tmp 50) (.tmp 51) 114 115 rfl B 162 i0 _ 3 24 Tryz.underlying114 Tryz.underlying115 hi hz0 hz1 hz2 rfl (by decide) _ 1 [.int .i64 x, .int .i64 y, .int .i64 1] rfl ?h0 (t.length + 1) (rowD (d :: t)) (HSG.out.of_world ?hw) rowD_one ?h3 ?h4 ?h5 ?_; (case h0 => exact HF.out _ _ (by rfl) hB); (case hw => exact HW.out _ (by exact fun _ _ h => h)); (case h3 => unfold maxLen; omega); (case h4 => omega); (case h5 => simp; omega); intro A1 cap1 w1 hown hgr _; have HG1 := Aside0.mk hgr; have HOW := Aside0.mk hown; clear hown hgr))
      go_ret
      rw [HAP.out, if_neg (fun h => HA.out h.1)]
      have := HFIN.out _ _ _ _ (Below.alloc (Below.alloc (Below.refl B W) hB _) (by simp; omega) _) HG1.out HOW.out
      exact ⟨_, rfl, this.1, this.2⟩
end Go.Proofs.YtonajgipkpnpoaaGreatDoor.Gr
namespace Go.Proofs.YtonajgipkpnpoaaGreatDoor.Gr
open Go.RowKit Go.Proofs.YtonajgipkpnpoaaGreatDoorW.PrintWords Go.Myers
set_option maxRecDepth 100000 in
theorem ok_true (W : World) (d k : Int) (h : 0 ≤ d ∧ -d ≤ k ∧ k ≤ d) (hd : d ≤ 1099511627776) :
    Calls Tryz.prog 99 #[.int .i64 d, .int .i64 k] W fun e w' => e = .returned (.bool true) ∧ W = w' := by
  obtain ⟨h1, h2, h3⟩ := h
  go_enter Tryz.func99, Tryz.ntmps99
  go_wp2
  go_ret
  exact ⟨rfl, rfl⟩
set_option maxRecDepth 100000 in
theorem ok_false (W : World) (d k : Int) (h : ¬ (0 ≤ d ∧ -d ≤ k ∧ k ≤ d)) (hd : d ≤ 1099511627776) (hd2 : -1099511627776 ≤ d) :
    Calls Tryz.prog 99 #[.int .i64 d, .int .i64 k] W fun e w' => e = .returned (.bool false) ∧ W = w' := by
  by_cases h1 : 0 ≤ d
  · by_cases h2 : -d ≤ k
    · have h3 : ¬ k ≤ d := fun h3 => h ⟨h1, h2, h3⟩
      clear h
      go_enter Tryz.func99, Tryz.ntmps99
      go_wp2
      go_ret
      exact ⟨rfl, rfl⟩
    · clear h
      go_enter Tryz.func99, Tryz.ntmps99
      go_wp2
      go_ret
      exact ⟨rfl, rfl⟩
  · clear h
    go_enter Tryz.func99, Tryz.ntmps99
    go_wp2
    go_ret
    exact ⟨rfl, rfl⟩
structure BkSt (E : Nat → Nat → Bool) (N M : Nat) (dl : Int) (W wr : World) (D0 : Nat) (x0 y0 : Int) (D : Nat) (k x : Int) (v : Value) (l : List Dg) : Prop where
  back : Back E N M dl D k x
  row : DgRow wr W.heap.size v l
  bel : Below W.heap.size W wr
  ch : Chain E N M l x0 y0
  ex : endX l x0 ≤ x
  ey : endY l y0 ≤ x - (k + dl)
  cnt : x - x0 + (x - (k + dl) - y0) = 2 * total l + ((D0 : Int) - D)
  le : D ≤ D0
section
variable {E : Nat → Nat → Bool} {N M : Nat} {dl : Int} {W wr : World} {D0 : Nat} {x0 y0 : Int} {D : Nat} {k x : Int} {v : Value} {l : List Dg}
theorem BkSt.start (hd : dl = (N : Int) - M) (hv : valid D k) (h0 : 0 ≤ lab E N dl D k) (h1 : 0 ≤ lab E N dl D k - (k + dl)) : BkSt E N M dl W W D (lab E N dl D k) (lab E N dl D k - (k + dl)) D k (lab E N dl D k) (.slice none 0 0) [] :=
  ⟨Back.start hd hv h0 h1, ⟨rfl, Or.inl ⟨rfl, rfl⟩⟩, Below.refl _ _, trivial, Int.le_refl _, Int.le_refl _, by simp [total], Nat.le_refl _⟩
theorem BkSt.up (hd : dl = (N : Int) - M) (h : BkSt E N M dl W wr D0 x0 y0 (D + 1) k x v l) (hv : valid D (k - 1)) (he : x = lab E N dl D (k - 1)) : BkSt E N M dl W wr D0 x0 y0 D (k - 1) x v l :=
  ⟨h.back.up hd hv he, h.row, h.bel, h.ch, h.ex, by have := h.ey; omega, by have := h.cnt; omega, by have := h.le; omega⟩
theorem BkSt.right (hd : dl = (N : Int) - M) (h : BkSt E N M dl W wr D0 x0 y0 (D + 1) k x v l) (hv : valid D (k + 1)) (he : x + 1 = lab E N dl D (k + 1)) : BkSt E N M dl W wr D0 x0 y0 D (k + 1) (x + 1) v l :=
  ⟨h.back.right hd hv he, h.row, h.bel, h.ch, by have := h.ex; omega, by have := h.ey; omega, by have := h.cnt; omega, by have := h.le; omega⟩
theorem BkSt.diag (hd : dl = (N : Int) - M) (h : BkSt E N M dl W wr D0 x0 y0 D k x v l) (hx0 : 0 ≤ x0) (hy0 : 0 ≤ y0) (hne : ¬ (x = N ∧ x - (k + dl) = M)) (h1 : ∀ d, D = d + 1 → valid d (k - 1) → x ≠ lab E N dl d (k - 1)) (h2 : ∀ d, D = d + 1 → valid d (k + 1) → x + 1 ≠ lab E N dl d (k + 1))
    {w2 : World} {v2 : Value} (hr : DgRow w2 W.heap.size v2 (appendD l x (x - (k + dl)))) (hb : Below W.heap.size W w2) : BkSt E N M dl W w2 D0 x0 y0 D k (x + 1) v2 (appendD l x (x - (k + dl))) := by
  obtain ⟨b, hE, hxN, hyM⟩ := h.back.diag hd hne h1 h2
  have he := end_append l x (x - (k + dl)) x0 y0
  exact ⟨b, hr, hb, chain_append l x _ x0 y0 hx0 hy0 h.ch h.ex h.ey hxN hyM hE, by rw [he.1]; omega, by rw [he.2]; omega, by rw [total_append]; have := h.cnt; omega, h.le⟩
theorem BkSt.drawn (h : BkSt E N M dl W wr D0 x0 y0 D k x v l) (q : Nat) : BkSt E N M dl W (wr.drewN q) D0 x0 y0 D k x v l :=
  ⟨h.back, pw_own_drewN h.row q, pw_below_drewN h.bel q, h.ch, h.ex, h.ey, h.cnt, h.le⟩
theorem BkSt.small (h : BkSt E N M dl W wr D0 x0 y0 D k x v l) (hx0 : 0 ≤ x0) (hy0 : 0 ≤ y0) (hN : N < 1099511627776) (hM : M < 1099511627776) : l.length ≤ N ∧ ∀ d ∈ l, 0 ≤ d.x ∧ d.x ≤ 1099511627776 ∧ 0 ≤ d.y ∧ d.y ≤ 1099511627776 ∧ 0 ≤ d.len ∧ d.len ≤ 1099511627776 := by
  have h1 := chain_in l x0 y0 hx0 hy0 h.ch
  have h2 := chain_end l x0 y0 h.ch
  have h3 := h.ex
  have h4 := h.back.xN
  exact ⟨by omega, fun d hd => by have := h1 d hd; omega⟩
end
structure BkAns (E : Nat → Nat → Bool) (N M : Nat) (W w' : World) (D0 : Nat) (x0 y0 : Int) (v : Value) (l : List Dg) : Prop where
  row : DgRow w' W.heap.size v l
  bel : Below W.heap.size W w'
  ch : Chain E N M l x0 y0
  cnt : (N : Int) + M - x0 - y0 - 2 * total l ≤ D0
theorem BkSt.fin {E : Nat → Nat → Bool} {N M : Nat} {dl : Int} {W wr w' : World} {D0 : Nat} {x0 y0 : Int} {D : Nat} {k x : Int} {v : Value} {l : List Dg} (h : BkSt E N M dl W wr D0 x0 y0 D k x v l) (h1 : x = N) (h2 : x - (k + dl) = M) (hb : Below wr.heap.size wr w') : BkAns E N M W w' D0 x0 y0 v l :=
  ⟨h.row.below hb, h.bel.trans (hb.mono h.bel.size), h.ch, by have := h.cnt; omega⟩
section
variable {W : World} {B ge : Nat} {sq : Value} {lim dl : Int} {F : Nat → Prop} {nf : Nat} {Lf : Nat → Nat → Int} {nb : Nat} {Lb : Nat → Nat → Int} {N M : Nat}
set_option maxRecDepth 100000 in
set_option maxHeartbeats 4000000 in
theorem back_lcs (h : EG W B ge sq lim N M dl F nf Lf nb Lb) {E : Nat → Nat → Bool} (hd : dl = (N : Int) - M) (hN : N < 1099511627776) (hM : M < 1099511627776) (D0 : Nat) (k0 : Int) (hL : ∀ d k, d < D0 → valid d k → Lb d (ix d k) = lab E N dl d k) (hL0 : Lb D0 (ix D0 k0) = lab E N dl D0 k0)
    (hv : valid D0 k0) (hD : D0 < nb) (hn : D0 < 1099511627776) (h0 : 0 ≤ lab E N dl D0 k0) (h1 : 0 ≤ lab E N dl D0 k0 - (k0 + dl)) :
    Calls Tryz.prog 85 #[.pointer (some ⟨ge, 0, none⟩), .int .i64 D0, .int .i64 k0] W fun e w' => ∃ v l, e = .returned v ∧ BkAns E N M W w' D0 (lab E N dl D0 k0) (lab E N dl D0 k0 - (k0 + dl)) v l := by
  have hg0 := get_back h D0 k0 hv hD hn
  rw [hL0] at hg0
  have hst := BkSt.start (W := W) hd hv h0 h1
  have HST := Aside0.mk hst
  have H := Aside0.mk h
  have HH0 := Lib.hid h0
  have HH1 := Lib.hid h1
  have HD := Lib.hid hd
  have hgL : ∀ wr, Below W.heap.size W wr → ∀ d : Nat, ∀ k, d < D0 → d < 1099511627776 → valid d k → Calls Tryz.prog 82 #[.pointer (some ⟨ge, 0, none⟩), .int .i64 d, .int .i64 k] wr fun e w' => e = .returned (.int .i64 (lab E N dl d k)) ∧ wr = w' := fun wr hb d k hd hd2 hv => by
    have := get_back (h.below hb) d k hv (by omega) hd2
    rwa [hL d k hd hv] at this
  have HG := Aside0.mk hgL
  clear hst h h0 h1 hd hL hL0 hgL
  go_enter Tryz.func85, Tryz.ntmps85
  go_wp2_with (go_at_call 82; refine hg0.mono ?_; rintro e w' ⟨rfl, rfl⟩)
  clear hg0
  go_loopw [1, 2, 7, 8] (fun v1 v2 v7 v8 wr => ∃ (D : Nat) (k x : Int) (l : List Dg), v1 = .int .i64 D ∧ v2 = .int .i64 k ∧ v8 = .int .i64 x ∧ Aside0 (BkSt E N M dl W wr D0 (lab E N dl D0 k0) (lab E N dl D0 k0 - (k0 + dl)) D k x v7 l)) (fun _ v2 _ v8 _ => ((N : Int) + M + dl + intOf v2 - 2 * intOf v8).toNat)
  case atStart => exact ⟨D0, k0, _, [], rfl, rfl, rfl, HST⟩
  case round =>
    obtain ⟨D, k, x, l, rfl, rfl, rfl, HB⟩ := hrel
    have hx := H.out.below HB.out.bel
    obtain ⟨vf, vb, Ff, Fb, hx⟩ := hx
    have c4 : wr.cell? ⟨ge, 4, none⟩ = some (.int .i64 0) := (blk_cell hx.cells 4).trans rfl
    have c5 : wr.cell? ⟨ge, 5, none⟩ = some (.int .i64 0) := (blk_cell hx.cells 5).trans rfl
    have c6 : wr.cell? ⟨ge, 6, none⟩ = some (.int .i64 N) := (blk_cell hx.cells 6).trans rfl
    have c7 : wr.cell? ⟨ge, 7, none⟩ = some (.int .i64 M) := (blk_cell hx.cells 7).trans rfl
    have c8 : wr.cell? ⟨ge, 8, none⟩ = some (.int .i64 dl) := (blk_cell hx.cells 8).trans rfl
    have b1 := HB.out.back.x0
    have b2 := HB.out.back.y0
    have b3 := HB.out.back.xN
    have b4 := HB.out.back.yM
    have b5 : -1099511627776 ≤ dl ∧ dl ≤ 1099511627776 := by have := HD.out; omega
    have b6 : D < 1099511627776 := by have := HB.out.le; omega
    have b7 : D < nb := by have := HB.out.le; omega
    have b8 : -1099511627776 ≤ k ∧ k ≤ 1099511627776 := by obtain ⟨a, b, _⟩ := HB.out.back.v; omega
    clear hx
    by_cases hend : x = N ∧ x - (k + dl) = M
    · obtain ⟨e1, e2⟩ := hend
      have E1 := Lib.hid e1
      have E2 := Lib.hid e2
      have t1 : (x != (N : Int)) = false := by simp [e1]
      have t2 : (x - (k + dl) != (M : Int)) = false := by simp [e2]
      clear e1 e2
      go_wp2_with fail
      go_quiet (fail)
      go_wp2_with fail
      go_ret
      exact ⟨_, l, rfl, HB.out.fin E1.out E2.out (pw_below_drewN (Below.refl _ _) _)⟩
    · have HE := Lib.hid hend
      go_upto_region 3 with fail
      go_cut [34] from 14 to 34 (fun v34 w => v34 = .bool true ∧ ∃ q, w = wr.drewN q)
      case first =>
        by_cases hxN : x = N
        · have t1 : (x != (N : Int)) = false := by simp [hxN]
          have t2 : (x - (k + dl) != (M : Int)) = true := by rw [bne_iff_ne]; exact fun e => hend ⟨hxN, e⟩
          clear hxN hend
          go_quiet (fail)
          go_wp2_with fail
          go_meet
          exact ⟨rfl, _, rfl⟩
        · have t1 : (x != (N : Int)) = true := by rw [bne_iff_ne]; exact hxN
          clear hend
          go_quiet (fail)
          go_wp2_with fail
          go_meet
          exact ⟨rfl, _, rfl⟩
      case rest =>
        obtain ⟨rfl, q, hwq⟩ := hcut
        have HB2 := Aside0.mk (HB.out.drawn q)
        replace c4 : (wr.drewN q).cell? ⟨ge, 4, none⟩ = some (.int .i64 0) := c4
        replace c5 : (wr.drewN q).cell? ⟨ge, 5, none⟩ = some (.int .i64 0) := c5
        replace c8 : (wr.drewN q).cell? ⟨ge, 8, none⟩ = some (.int .i64 dl) := c8
        rw [← hwq] at HB2 c4 c5 c8
        clear hwq HB c6 c7
        have hsm := HB2.out.small HH0.out HH1.out hN hM
        have happ := lcs_append wc.drew W.heap.size HB2.out.bel.size u7 l HB2.out.row x (x - (k + dl)) (by omega) hsm.2
        have HAPP := Aside0.mk happ
        clear hsm happ
        have hm : 2 * x + 1 ≤ N + M + dl + k := by omega
        have HM := Lib.hid hm
        clear hm
        rcases D with _ | D
        · have ho1 := ok_false wc (-1) (k - 1) (by omega) (by omega) (by omega)
          have ho2 := ok_false wc (-1) (k + 1) (by omega) (by omega) (by omega)
          have HU1 := Aside0.mk (show ∀ d, 0 = d + 1 → valid d (k - 1) → x ≠ lab E N dl d (k - 1) from fun d h => by omega)
          have HU2 := Aside0.mk (show ∀ d, 0 = d + 1 → valid d (k + 1) → x + 1 ≠ lab E N dl d (k + 1) from fun d h => by omega)
          clear hend
          go_wp2_with (go_at_call 99; first | (with_reducible refine ho1.mono ?_; rintro e w' ⟨rfl, rfl⟩) | (with_reducible refine ho2.mono ?_; rintro e w' ⟨rfl, rfl⟩))
          have hw1 : IntKind.i64.wrap x = x := IntWalk.i64_in _ (by omega)
          have hw2 : IntKind.i64.wrap (x - (k + dl)) = x - (k + dl) := IntWalk.i64_in _ (by omega)
          go_still_tail 13, (by kernel_rfl)
          clear hw1 hw2
          change wpList _ _ _ _ _ wc.drew
          go_wp2_with (go_at_call 102; refine HAPP.out.mono ?_; rintro e w2 ⟨v2, rfl, hr2, hb2⟩; have HR2 := Aside0.mk hr2; have HW2 := Aside0.mk hb2; clear hr2 hb2)
          go_roundw
          case rel => exact ⟨0, k, x + 1, _, by go_num, rfl, by go_num, Aside0.mk (HB2.out.diag HD.out HH0.out HH1.out HE.out HU1.out HU2.out HR2.out (HB2.out.bel.drew.trans HW2.out))⟩
          case measure => have := HM.out; simp [intOf]; omega
        · have hv1 := HB2.out.back.v
          have hv2 : ∀ k', ((k' - k) % 2 = 1) → -(D : Int) ≤ k' → k' ≤ D → valid D k' := fun k' h1 h2 h3 => ⟨h2, h3, by obtain ⟨_, _, h4⟩ := hv1; omega⟩
          have bD : D < D0 := by have := HB2.out.le; omega
          have bD2 : D < 1099511627776 := by omega
          by_cases hA : -(D : Int) ≤ k - 1 ∧ k - 1 ≤ D
          · have va := hv2 (k - 1) (by omega) hA.1 hA.2
            have ho1 := ok_true wc D (k - 1) (by omega) (by omega)
            have hg1 := HG.out wc HB2.out.bel D (k - 1) bD bD2 va
            by_cases he1 : x = lab E N dl D (k - 1)
            · have t1 : (x == lab E N dl D (k - 1)) = true := by simpa using he1
              have HX := Aside0.mk (HB2.out.up HD.out va he1)
              clear he1 va hv1 hv2 hA hend
              go_wp2_with (first | (go_at_call 99; first | (with_reducible refine ho1.mono ?_; rintro e w' ⟨rfl, rfl⟩)) | (go_at_call 82; first | (with_reducible refine hg1.mono ?_; rintro e w' ⟨rfl, rfl⟩)))
              go_roundw
              case rel => exact ⟨D, k - 1, x, _, by go_num, rfl, rfl, HX⟩
              case measure => have := HM.out; simp [intOf]; omega
            · have t1 : (x == lab E N dl D (k - 1)) = false := by simpa using he1
              have HU1a : Aside0 (∀ d, D + 1 = d + 1 → valid d (k - 1) → x ≠ lab E N dl d (k - 1)) := ⟨fun d h _ => (show D = d by omega) ▸ he1⟩
              clear he1 va
              by_cases hB : -(D : Int) ≤ k + 1 ∧ k + 1 ≤ D
              · have vb := hv2 (k + 1) (by omega) hB.1 hB.2
                have ho2 := ok_true wc D (k + 1) (by omega) (by omega)
                have hg2 := HG.out wc HB2.out.bel D (k + 1) bD bD2 vb
                by_cases he2 : x + 1 = lab E N dl D (k + 1)
                · have t2 : (x + 1 == lab E N dl D (k + 1)) = true := by simpa using he2
                  have HX := Aside0.mk (HB2.out.right HD.out vb he2)
                  clear he2 vb hv1 hv2 hA hB hend
                  go_wp2_with (first | (go_at_call 99; first | (with_reducible refine ho1.mono ?_; rintro e w' ⟨rfl, rfl⟩) | (with_reducible refine ho2.mono ?_; rintro e w' ⟨rfl, rfl⟩)) | (go_at_call 82; first | (with_reducible refine hg1.mono ?_; rintro e w' ⟨rfl, rfl⟩) | (with_reducible refine hg2.mono ?_; rintro e w' ⟨rfl, rfl⟩)))
                  go_roundw
                  case rel => exact ⟨D, k + 1, x + 1, _, by go_num, rfl, rfl, HX⟩
                  case measure => have := HM.out; simp [intOf]; omega
                · have t2 : (x + 1 == lab E N dl D (k + 1)) = false := by simpa using he2
                  have HU2a : Aside0 (∀ d, D + 1 = d + 1 → valid d (k + 1) → x + 1 ≠ lab E N dl d (k + 1)) := ⟨fun d h _ => (show D = d by omega) ▸ he2⟩
                  clear he2 vb
                  have HU1 := Aside0.mk (HU1a.out)
                  have HU2 := Aside0.mk (HU2a.out)
                  clear hv1 hv2 hA hB hend
                  go_wp2_with (first | (go_at_call 99; first | (with_reducible refine ho1.mono ?_; rintro e w' ⟨rfl, rfl⟩) | (with_reducible refine ho2.mono ?_; rintro e w' ⟨rfl, rfl⟩)) | (go_at_call 82; first | (with_reducible refine hg1.mono ?_; rintro e w' ⟨rfl, rfl⟩) | (with_reducible refine hg2.mono ?_; rintro e w' ⟨rfl, rfl⟩)))
                  have hw1 : IntKind.i64.wrap x = x := IntWalk.i64_in _ (by omega)
                  have hw2 : IntKind.i64.wrap (x - (k + dl)) = x - (k + dl) := IntWalk.i64_in _ (by omega)
                  go_still_tail 13, (by kernel_rfl)
                  clear hw1 hw2
                  change wpList _ _ _ _ _ wc.drew
                  go_wp2_with (go_at_call 102; refine HAPP.out.mono ?_; rintro e w2 ⟨v2, rfl, hr2, hb2⟩; have HR2 := Aside0.mk hr2; have HW2 := Aside0.mk hb2; clear hr2 hb2)
                  go_roundw
                  case rel => exact ⟨D + 1, k, x + 1, _, by go_num, rfl, by go_num, Aside0.mk (HB2.out.diag HD.out HH0.out HH1.out HE.out HU1.out HU2.out HR2.out (HB2.out.bel.drew.trans HW2.out))⟩
                  case measure => have := HM.out; simp [intOf]; omega
              · have ho2 := ok_false wc D (k + 1) (by omega) (by omega) (by omega)
                have HU2a : Aside0 (∀ d, D + 1 = d + 1 → valid d (k + 1) → x + 1 ≠ lab E N dl d (k + 1)) := ⟨fun d h hv => absurd ((show D = d by omega) ▸ ⟨hv.1, hv.2.1⟩ : -(D : Int) ≤ k + 1 ∧ k + 1 ≤ D) hB⟩
                have HU1 := Aside0.mk (HU1a.out)
                have HU2 := Aside0.mk (HU2a.out)
                clear hv1 hv2 hA hB hend
                go_wp2_with (first | (go_at_call 99; first | (with_reducible refine ho1.mono ?_; rintro e w' ⟨rfl, rfl⟩) | (with_reducible refine ho2.mono ?_; rintro e w' ⟨rfl, rfl⟩)) | (go_at_call 82; first | (with_reducible refine hg1.mono ?_; rintro e w' ⟨rfl, rfl⟩)))
                have hw1 : IntKind.i64.wrap x = x := IntWalk.i64_in _ (by omega)
                have hw2 : IntKind.i64.wrap (x - (k + dl)) = x - (k + dl) := IntWalk.i64_in _ (by omega)
                go_still_tail 13, (by kernel_rfl)
                clear hw1 hw2
                change wpList _ _ _ _ _ wc.drew
                go_wp2_with (go_at_call 102; refine HAPP.out.mono ?_; rintro e w2 ⟨v2, rfl, hr2, hb2⟩; have HR2 := Aside0.mk hr2; have HW2 := Aside0.mk hb2; clear hr2 hb2)
                go_roundw
                case rel => exact ⟨D + 1, k, x + 1, _, by go_num, rfl, by go_num, Aside0.mk (HB2.out.diag HD.out HH0.out HH1.out HE.out HU1.out HU2.out HR2.out (HB2.out.bel.drew.trans HW2.out))⟩
                case measure => have := HM.out; simp [intOf]; omega
          · have ho1 := ok_false wc D (k - 1) (by omega) (by omega) (by omega)
            have HU1a : Aside0 (∀ d, D + 1 = d + 1 → valid d (k - 1) → x ≠ lab E N dl d (k - 1)) := ⟨fun d h hv => absurd ((show D = d by omega) ▸ ⟨hv.1, hv.2.1⟩ : -(D : Int) ≤ k - 1 ∧ k - 1 ≤ D) hA⟩
            by_cases hB : -(D : Int) ≤ k + 1 ∧ k + 1 ≤ D
            · have vb := hv2 (k + 1) (by omega) hB.1 hB.2
              have ho2 := ok_true wc D (k + 1) (by omega) (by omega)
              have hg2 := HG.out wc HB2.out.bel D (k + 1) bD bD2 vb
              by_cases he2 : x + 1 = lab E N dl D (k + 1)
              · have t2 : (x + 1 == lab E N dl D (k + 1)) = true := by simpa using he2
                have HX := Aside0.mk (HB2.out.right HD.out vb he2)
                clear he2 vb hv1 hv2 hA hB hend
                go_wp2_with (first | (go_at_call 99; first | (with_reducible refine ho1.mono ?_; rintro e w' ⟨rfl, rfl⟩) | (with_reducible refine ho2.mono ?_; rintro e w' ⟨rfl, rfl⟩)) | (go_at_call 82; first | (with_reducible refine hg2.mono ?_; rintro e w' ⟨rfl, rfl⟩)))
                go_roundw
                case rel => exact ⟨D, k + 1, x + 1, _, by go_num, rfl, rfl, HX⟩
                case measure => have := HM.out; simp [intOf]; omega
              · have t2 : (x + 1 == lab E N dl D (k + 1)) = false := by simpa using he2
                have HU2a : Aside0 (∀ d, D + 1 = d + 1 → valid d (k + 1) → x + 1 ≠ lab E N dl d (k + 1)) := ⟨fun d h _ => (show D = d by omega) ▸ he2⟩
                clear he2 vb
                have HU1 := Aside0.mk (HU1a.out)
                have HU2 := Aside0.mk (HU2a.out)
                clear hv1 hv2 hA hB hend
                go_wp2_with (first | (go_at_call 99; first | (with_reducible refine ho1.mono ?_; rintro e w' ⟨rfl, rfl⟩) | (with_reducible refine ho2.mono ?_; rintro e w' ⟨rfl, rfl⟩)) | (go_at_call 82; first | (with_reducible refine hg2.mono ?_; rintro e w' ⟨rfl, rfl⟩)))
                have hw1 : IntKind.i64.wrap x = x := IntWalk.i64_in _ (by omega)
                have hw2 : IntKind.i64.wrap (x - (k + dl)) = x - (k + dl) := IntWalk.i64_in _ (by omega)
                go_still_tail 13, (by kernel_rfl)
                clear hw1 hw2
                change wpList _ _ _ _ _ wc.drew
                go_wp2_with (go_at_call 102; refine HAPP.out.mono ?_; rintro e w2 ⟨v2, rfl, hr2, hb2⟩; have HR2 := Aside0.mk hr2; have HW2 := Aside0.mk hb2; clear hr2 hb2)
                go_roundw
                case rel => exact ⟨D + 1, k, x + 1, _, by go_num, rfl, by go_num, Aside0.mk (HB2.out.diag HD.out HH0.out HH1.out HE.out HU1.out HU2.out HR2.out (HB2.out.bel.drew.trans HW2.out))⟩
                case measure => have := HM.out; simp [intOf]; omega
            · have ho2 := ok_false wc D (k + 1) (by omega) (by omega) (by omega)
              have HU2a : Aside0 (∀ d, D + 1 = d + 1 → valid d (k + 1) → x + 1 ≠ lab E N dl d (k + 1)) := ⟨fun d h hv => absurd ((show D = d by omega) ▸ ⟨hv.1, hv.2.1⟩ : -(D : Int) ≤ k + 1 ∧ k + 1 ≤ D) hB⟩
              have HU1 := Aside0.mk (HU1a.out)
              have HU2 := Aside0.mk (HU2a.out)
              clear hv1 hv2 hA hB hend
              go_wp2_with (go_at_call 99; first | (with_reducible refine ho1.mono ?_; rintro e w' ⟨rfl, rfl⟩) | (with_reducible refine ho2.mono ?_; rintro e w' ⟨rfl, rfl⟩))
              have hw1 : IntKind.i64.wrap x = x := IntWalk.i64_in _ (by omega)
              have hw2 : IntKind.i64.wrap (x - (k + dl)) = x - (k + dl) := IntWalk.i64_in _ (by omega)
              go_still_tail 13, (by kernel_rfl)
              clear hw1 hw2
              change wpList _ _ _ _ _ wc.drew
              go_wp2_with (go_at_call 102; refine HAPP.out.mono ?_; rintro e w2 ⟨v2, rfl, hr2, hb2⟩; have HR2 := Aside0.mk hr2; have HW2 := Aside0.mk hb2; clear hr2 hb2)
              go_roundw
              case rel => exact ⟨D + 1, k, x + 1, _, by go_num, rfl, by go_num, Aside0.mk (HB2.out.diag HD.out HH0.out HH1.out HE.out HU1.out HU2.out HR2.out (HB2.out.bel.drew.trans HW2.out))⟩
              case measure => have := HM.out; simp [intOf]; omega
end
end Go.Proofs.YtonajgipkpnpoaaGreatDoor.Gr
