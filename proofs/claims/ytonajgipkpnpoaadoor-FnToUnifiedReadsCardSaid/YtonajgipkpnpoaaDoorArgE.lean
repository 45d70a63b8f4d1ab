/- An argument that is a list of edits, opened: its elements, and how many there may be. -/
import Derived.Test.YtonajgipkpnpoaaDoorPLw
import Derived.Deep.Slices
import Derived.Deep.Fields
import Derived.ChangeSame
import Derived.ChangeArms
import Derived.SizedLaws
import Derived.KernelRfl
namespace Go.Proofs.YtonajgipkpnpoaaDoor.QFnToUnifiedReads
open Go.ChangeShapes Go.WideShapes Go.Deep Go.RowKit Go.Proofs.YtonajgipkpnpoaaDoorW.PrintWords
section
variable {H : Type} {enc : TypeId × Value → H} {P : Program} {w : World} {base : Nat} {spare : Nat → Bool} {held : Bool}
theorem open_slice_fields {t e : TypeId} {fs : Array Field} {fuel : Nat} {cs : List Value} {x : DataW H × List MemPlace} (ht : P.underlying t = some (.slice e)) (he : P.underlying e = some (.struct fs))
    (hone : oneCellFields P fs = true) (hC : P.cellsOf e = fs.size) (h : DataW.trod enc P w base spare held fuel t cs = some x) :
    (cs = [.slice none 0 0] ∧ x = (.nil, [])) ∨
    ∃ (a : Addr) (len cap m : Nat) (D : Nat → DataW H) (Pl : Nat → List MemPlace), cs = [.slice (some a) len cap] ∧ base ≤ a.block ∧ len ≤ cap ∧ cap ≤ maxLen ∧ m = (if spare a.block then cap else len) ∧
      x = (.slice ((List.range len).map D) ((List.range (m - len)).map fun j => D (len + j)), MemPlace.row a (m * fs.size) ++ (List.range m).flatMap Pl) ∧
      ∀ i, i < m → ∃ (ys : List (DataW H × List MemPlace)) (n : Nat), D i = .agg (ys.map (·.1)) ∧ Pl i = ys.flatMap (·.2) ∧ ys.length = fs.size ∧
        ∀ (j : Nat) (f : Field), fs[j]? = some f → ∃ (v : Value) (y : DataW H × List MemPlace), w.cell? (a.add (i * fs.size + j)) = some v ∧ ys[j]? = some y ∧ DataW.trod enc P w base spare held n f.type [v] = some y := by
  rcases open_slice ht h with h0 | ⟨a, len, cap, m, n, D, Pl, hcs, hb, hl, hm, hmm, hx, hi⟩
  · exact .inl h0
  · refine .inr ⟨a, len, cap, m, D, Pl, hcs, hb, hl, hm, hmm, by rw [hC] at hx; exact hx, fun i him => ?_⟩
    obtain ⟨cs', hc, ht'⟩ := hi i him
    rw [hC] at hc
    obtain ⟨ys, n', hn', hy, hlen, hyl, hf⟩ := DataW.trod_struct he ht'
    obtain ⟨_, hcl, hat⟩ := World.cells?_some hc
    simp only [Prod.mk.injEq] at hy
    refine ⟨ys, n', hy.1, hy.2, hyl, fun j f hj => ?_⟩
    obtain ⟨ho, hk⟩ := hone_of hone j f hj
    have hjl : j < fs.size := (Array.getElem?_eq_some_iff.1 hj).1
    have hcell := hat j hjl
    have hv : cs'[j]? = some (cs'[j]'(by omega)) := List.getElem?_eq_getElem (by omega)
    have h1 := hf j f hj
    rw [ho, hk] at h1
    have hone' : (cs'.drop j).take 1 = [cs'[j]'(by omega)] := by
      rw [List.drop_eq_getElem_cons (by omega)]
      rfl
    rw [hone'] at h1
    have hys : ys[j]? = some (ys[j]'(by omega)) := List.getElem?_eq_getElem (by omega)
    refine ⟨_, _, ?_, hys, h1.trans hys⟩
    rw [← Go.Deep.add_add, hcell, hv]
end

def w3 (W : World) (a0 a1 a2 : Addr) (y : S38) : Prop := W.cell? a0 = some (.int .i64 y.f0) ∧ W.cell? a1 = some (.int .i64 y.f1) ∧ W.cell? a2 = some (.string y.f2)

theorem cells_ed : Tryd.prog.cellsOf 38 = 3 := by kernel_rfl
theorem bytes_ed : Tryd.prog.bytesOf 38 = 32 := by kernel_rfl

/-- A list of edits that came in. -/
theorem edits_arg {H : Type} {enc : TypeId × Value → H} {W : World} {base : Nat} {spare : Nat → Bool} {held : Bool} {a : Option Addr} {len cap : Nat} {d : DataW H} {ps : List MemPlace} {ts : List TypeId} {ds : List (DataW H)} {j : Nat}
    (hsz : (DataW.weightsEach Tryd.prog ts ds).all (· ≤ reachBytes) = true) (ht : ts[j]? = some 22) (hd : ds[j]? = some d)
    (h : DataW.Trod enc Tryd.prog W base spare held 22 (.slice a len cap) d ps) :
    ∃ l : List S38, l.length = len ∧ Kd.C k38 W a len l ∧ len ≤ cap ∧ len * 32 ≤ 140737488351232 := by
  obtain ⟨fuel, hf⟩ := h
  rcases open_slice_fields (fs := _) Tryd.underlying22 Tryd.underlying38 (by kernel_rfl) cells_ed hf with ⟨hcs, hx⟩ | ⟨x, l, c, m, D, Pl, hcs, hb, hl, hm, hmm, hx, hi⟩
  · simp [Value.cells] at hcs
    obtain ⟨rfl, rfl, rfl⟩ := hcs
    exact ⟨[], rfl, ⟨rfl, by simp, fun h => by omega⟩, Nat.le_refl _, by omega⟩
  · simp [Value.cells] at hcs
    obtain ⟨rfl, rfl, rfl⟩ := hcs
    obtain ⟨hx, _⟩ := Prod.mk.inj hx
    subst hx
    have z := sized_slice hsz ht hd Tryd.underlying22
    rw [bytes_ed] at z
    have hlm : len ≤ m := by rw [hmm]; split <;> omega
    have hel : ∀ i, i < len → ∃ y : S38, w3 W (x.add (i * 3)) (x.add (i * 3 + 1)) (x.add (i * 3 + 2)) y := by
      intro i hi'
      obtain ⟨ys, n, hD, hP, hyl, hfld⟩ := hi i (by omega)
      obtain ⟨v0, y0, c0, _, t0⟩ := hfld 0 _ rfl
      obtain ⟨v1, y1, c1, _, t1⟩ := hfld 1 _ rfl
      obtain ⟨v2, y2, c2, _, t2⟩ := hfld 2 _ rfl
      obtain ⟨n0, e0, _⟩ := DataW.trod_int Tryd.underlying3 t0
      obtain ⟨n1, e1, _⟩ := DataW.trod_int Tryd.underlying3 t1
      obtain ⟨s2, e2, _⟩ := DataW.trod_string Tryd.underlying9 t2
      simp at e0 e1 e2
      subst e0 e1 e2
      exact ⟨⟨n0, n1, s2⟩, c0, c1, c2⟩
    have hex : ∀ i, ∃ y : S38, i < len → w3 W (x.add (i * 3)) (x.add (i * 3 + 1)) (x.add (i * 3 + 2)) y := fun i => by
      by_cases c : i < len
      · obtain ⟨y, hy⟩ := hel i c; exact ⟨y, fun _ => hy⟩
      · exact ⟨z38, fun h => absurd h c⟩
    obtain ⟨f, hf2⟩ := Classical.axiomOfChoice hex
    refine ⟨(List.range len).map f, by simp, ⟨by simp, by unfold maxLen at hm; omega, fun _ => ⟨x, rfl, fun j p hj => ?_⟩⟩, hl, ?_⟩
    · rw [List.getElem?_map] at hj
      cases hr : (List.range len)[j]? with
      | none => rw [hr] at hj; cases hj
      | some q =>
        rw [hr] at hj
        obtain rfl := Option.some.inj hj
        have hjl : j < len := by have := (List.getElem?_eq_some_iff.1 hr).1; simpa using this
        have hq : q = j := by have := (List.getElem?_eq_some_iff.1 hr).2; simpa using this.symm
        subst hq
        obtain ⟨g0, g1, g2⟩ := hf2 q hjl
        refine ⟨[.int .i64 (f q).f0, .int .i64 (f q).f1, .string (f q).f2], rfl, k38_mk W (f q), fun i u hi => ?_⟩
        rw [show k38.sz = 3 from rfl]
        match i, hi with
        | 0, hi => obtain rfl := Option.some.inj hi; exact g0
        | 1, hi => obtain rfl := Option.some.inj hi; exact g1
        | 2, hi => obtain rfl := Option.some.inj hi; exact g2
    · simp only [List.length_map, List.length_range] at z
      unfold reachBytes at z
      omega
end Go.Proofs.YtonajgipkpnpoaaDoor.QFnToUnifiedReads
