/- diff.ToUnified, impl.ToUnified. -/
import Derived.Test.YtonajgipkpnpoaaDoorLed
import Derived.Test.YtonajgipkpnpoaaDoorUniF
import Derived.Test.YtonajgipkpnpoaaDoorLnO
import Derived.Deep.QuietTactic
import Derived.BigQuiet
namespace Go.Proofs.YtonajgipkpnpoaaDoor.Un
open Go.RowKit Go.Sort Go.Sst Go.Proofs.YtonajgipkpnpoaaDoorW.PrintWords Go.Proofs.YtonajgipkpnpoaaDoorW.PrintLast Go.Proofs.YtonajgipkpnpoaaDoorW.PrintMore Go.Uni
open Go.Proofs.YtonajgipkpnpoaaDoor.SortM Go.Proofs.YtonajgipkpnpoaaDoor.SortS Go.Proofs.YtonajgipkpnpoaaDoor.SortU
set_option linter.unusedVariables false
set_option linter.unusedSimpArgs false

/-- edits of a text that can be applied: as they came, and in their order -/
structure Eds (c : ByteArray) (es ys : List BE) : Prop where
  c6 : c.size ≤ 1000000
  len : ys.length = es.length
  l6 : es.length ≤ 1000000
  tot : Go.Uni.tot ys ≤ 1000000
  near : ∀ y ∈ es, y.s ≤ 1000000 ∧ y.e ≤ 1000000
  sort : sortE (es.map bE) = ys.map bE
  io : InO c.data.toList.length ys 0

/-- the form of what edits do -/
def formU (fa fb : ByteArray) (c : Bs) (ctx : Nat) (es : List BE) (U : ByteArray) : Prop :=
  (es = [] ∧ U = ⟨#[]⟩) ∨ ∃ ys, es ≠ [] ∧ LineEd c es ys ∧ U = mkS (rNames fa.data.toList fb.data.toList ++ rHks (fin ctx (splitL c) (stAt ctx c ys ys.length)))

def ToPost (W : World) (fa fb : ByteArray) (c : Bs) (ctx : Nat) (es : List BE) (r : Value) (e : Ending) (w' : World) : Prop :=
  ∃ U, e = .returned (.tuple #[.string U, r]) ∧ formU fa fb c ctx es U ∧ Below W.heap.size W w'

theorem lineEd_tells {c : Bs} {es ys : List BE} {ctx : Nat} (hctx : 1 ≤ ctx) (hL : LineEd c es ys) (hio : InO c.length es 0) (hne : es ≠ []) (hc : c.length ≤ 1000000) (ht : tot es ≤ 1000000) (hl : es.length ≤ 1000000) : Tells c (fin ctx (splitL c) (stAt ctx c ys ys.length)) (app c es 0) := by
  obtain ⟨h1, h2, h3, h4⟩ := lineEd_ok hL hio
  rw [← h2]
  exact tells_of hctx (h4 hne) h1 hc (by omega) (by have := lineEd_len hL; omega)

set_option maxRecDepth 100000 in
theorem toUnified_none (W : World) (fa fb c : ByteArray) (A : Option Addr) (cap : Nat) (ctx : Nat) (hctx2 : ctx ≤ 8) :
    Calls Tryd.prog 24 #[(.string fa), (.string fb), .string c, .slice A 0 cap, .int .i64 ctx] W fun e w' => e = .returned (.tuple #[.agg #[.string fa, .string fb, .slice none 0 0], .nilIface]) ∧ Below W.heap.size W w' := by
  go_enter Tryd.func24, Tryd.ntmps24
  go_wp2_with fail
  refine bodyPost_ret (results_two rfl _ _ W.heap.size 62 #[.string fa, .string fb, .slice none 0 0] (0, 0) _ .nilIface rfl rfl (two_heap W (.cells #[.string fa, .string fb, .slice none 0 0] 62) (.cells #[.string fa, .string fb, .slice none 0 0] 62)).1 Tryd.underlying62 rfl (by kernel_rfl)) rfl ?_
  exact ⟨rfl, (two_heap W _ _).2.2⟩

set_option maxRecDepth 100000 in
theorem toU_calls (W : World) (fa fb c : ByteArray) (A : Option Addr) (cap : Nat) (es ys : List BE) (ctx : Nat) (hctx : 1 ≤ ctx) (hctx2 : ctx ≤ 8) (h : Eds c es ys) (hfa : fa.size ≤ 1000000) (hfb : fb.size ≤ 1000000) (ht : Tab W) (hown : W.ownsRow 0 66 3 (.slice A es.length cap) es.length (rowE es)) :
    Calls Tryd.prog 16 #[(.string fa), (.string fb), .string c, .slice A es.length cap, .int .i64 ctx] W fun e w' => ToPost W fa fb c.data.toList ctx ys .nilIface e w' := by
  by_cases h0 : es.length = 0
  · have hy0 : ys = [] := List.eq_nil_of_length_eq_zero (by rw [h.len]; exact h0)
    have hn := toUnified_none W fa fb c A cap ctx hctx2
    rw [h0]
    have HY := Lib.hid hy0
    clear hy0 h hown h0
    go_enter Tryd.func16, Tryd.ntmps16
    go_wp2_with (first
      | (go_at_call 24; (with_reducible refine hn.mono ?_); rintro e w1 ⟨rfl, hb1⟩; have HB1 := Aside0.mk hb1; clear hb1)
      | (go_at_call 25; (with_reducible refine (string_none _ fa fb).mono ?_); rintro e w2 ⟨rfl, hb2⟩; have HB2 := Aside0.mk hb2; clear hb2))
    go_ret2
    exact ⟨_, rfl, Or.inl ⟨HY.out, rfl⟩, (below_alloc HB1.out _).trans (HB2.out.mono (by have := HB1.out.size; simp; omega))⟩
  · have hyl : ys.length ≤ 1000000 := by rw [h.len]; exact h.l6
    have hyne : ys ≠ [] := by intro e; rw [e] at h; exact h0 (by have := h.len; simpa using this.symm)
    have hcl : c.data.toList.length ≤ 1000000 := by rw [data_length]; exact h.c6
    have hle : ∀ W1, Below W.heap.size W W1 → Calls Tryd.prog 29 #[.string c, .slice A es.length cap] W1 fun e w' => LePost W1 c.data.toList ys e w' := fun W1 hb =>
      lineEdits_calls W1 c A es.length cap es ys h.c6 rfl h.len (by omega) h.l6 h.tot h.near (pw_own_below hown hb) h.sort h.io
    have htu := toUnified_calls W fa fb c (.slice A es.length cap) es.length ys ctx h.c6 h.tot hyl hctx hctx2 A cap rfl h0 hyne h.io hle
    have htl : ∀ ys', LineEd c.data.toList ys ys' → Tells c.data.toList (fin ctx (splitL c.data.toList) (stAt ctx c.data.toList ys' ys'.length)) (app c.data.toList ys 0) := fun ys' hL => lineEd_tells hctx hL h.io hyne hcl h.tot hyl
    have HTL := Aside0.mk htl
    have HT := Aside0.mk ht
    have HNE := Aside0.mk hyne
    have hfa2 : fa.data.toList.length ≤ 1000000 := by rw [data_length]; exact hfa
    have hfb2 : fb.data.toList.length ≤ 1000000 := by rw [data_length]; exact hfb
    clear htl hle h ht hown h0 hyne
    go_enter Tryd.func16, Tryd.ntmps16
    go_upto_region 4 with (go_at_call 24; (with_reducible refine htu.mono ?_); rintro e w1 ⟨vh, hs, ys', rfl, hL, hrow, hh, hfin, hb1⟩; obtain ⟨AH, cH, rfl⟩ := own_slice hrow; have HL := Aside0.mk hL; have HROW := Aside0.mk hrow; have HH := Aside0.mk hh; have HFIN := Lib.hid hfin; have HB1 := Aside0.mk hb1; clear hL hrow hh hfin hb1)
    have htl := HTL.out ys' HL.out
    have hHs := HFIN.out
    have hlen : hs.length = (fin ctx (splitL c.data.toList) (stAt ctx c.data.toList ys' ys'.length)).length := by rw [← hHs, List.length_map]
    have hsne : hs ≠ [] := by
      intro e
      apply htl.ne
      rw [← hHs, e]; rfl
    have hst : ∀ o, Calls Tryd.prog 25 #[.agg #[.string fa, .string fb, .slice AH hs.length cH]] (w1.alloc o) fun e w' => e = .returned (.string (mkS (rNames fa.data.toList fb.data.toList ++ rHks (fin ctx (splitL c.data.toList) (stAt ctx c.data.toList ys' ys'.length))))) ∧ Below (w1.alloc o).heap.size (w1.alloc o) w' := fun o => by
      have hk := string_calls (w1.alloc o) fa fb (.slice AH hs.length cH) hs W.heap.size 4000000 hsne (own_alloc HROW.out o) (fun x hx => (HH.out x hx).fr (Fr.alloc_ w1 o (fun _ => False)) (fun x => x) (fun _ _ x => x)) (fun x hx => htl.good _ (by rw [← hHs]; exact List.mem_map.2 ⟨x, hx, rfl⟩)) (by omega) (HT.out.stay (below_alloc HB1.out o) (Nat.le_refl _)) (by
        rw [hHs, List.length_append]
        have h1 := htl.size
        have h2 : (rNames fa.data.toList fb.data.toList).length = fa.data.toList.length + fb.data.toList.length + 10 := by unfold rNames; simp only [List.length_append, List.length_cons, List.length_nil]; omega
        omega) (by rw [hlen]; have := htl.len; omega)
      rw [hHs] at hk
      exact hk
    have HST := Aside0.mk hst
    obtain ⟨Ub, hUb⟩ : ∃ Ub, Ub = mkS (rNames fa.data.toList fb.data.toList ++ rHks (fin ctx (splitL c.data.toList) (stAt ctx c.data.toList ys' ys'.length))) := ⟨_, rfl⟩
    rw [← hUb] at HST
    have HUB := Lib.hid hUb
    clear hst htl hHs hlen hsne hUb
    go_wp2_with (go_at_call 25; go_loud ((with_reducible refine (HST.out _).mono ?_); rintro e w2 ⟨rfl, hb2⟩; have HB2 := Aside0.mk hb2; clear hb2))
    go_ret2
    exact ⟨_, rfl, Or.inr ⟨ys', HNE.out, HL.out, HUB.out⟩, (below_alloc HB1.out _).trans (HB2.out.mono (by have := HB1.out.size; simp; omega))⟩
end Go.Proofs.YtonajgipkpnpoaaDoor.Un
