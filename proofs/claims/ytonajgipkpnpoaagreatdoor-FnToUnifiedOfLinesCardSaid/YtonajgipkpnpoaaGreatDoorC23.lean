/- The pieces sorted: the two closures, and sort.Slice by the shelf's contract. sort.Slice at a named slice type: what it asks of internal/reflectlite. Two pieces or more, sorted by sort.Slice. The closures of both sorts, at every world that the sort passes through; none or one piece. The pieces' own sort. What twolcs's walk asks of the state. -/
import Derived.Test.YtonajgipkpnpoaaGreatDoorC19
import Derived.Test.YtonajgipkpnpoaaGreatDoorC13
import Derived.Shelf.SlSortFuncK.WholeK
import Derived.Shelf.GgSortFunc.Tiny
import Derived.Test.YtonajgipkpnpoaaGreatDoorC18
import Derived.Test.YtonajgipkpnpoaaGreatDoorC01
namespace Go.Proofs.YtonajgipkpnpoaaGreatDoor.Gr
open Go.RowKit Go.Proofs.YtonajgipkpnpoaaGreatDoorW.PrintWords Go.Myers Go.Shelf Go.Lib Go.Sort
set_option linter.unusedVariables false
def ltX (a b : Dg) : Bool := if a.x = b.x then decide (b.len < a.len) else decide (a.x < b.x)
def ltL (a b : Dg) : Bool := decide (b.len < a.len)
theorem swo_ltX : SWO ltX := ⟨fun x => by simp [ltX], fun x y z h1 h2 => by
    unfold ltX at *
    split at h1 <;> split at h2 <;> split <;> simp only [decide_eq_true_eq] at * <;> omega, fun x y z h1 h2 => by
    unfold ltX at *
    split at h1 <;> split at h2 <;> split <;> simp only [decide_eq_false_iff_not] at * <;> omega⟩
theorem swo_ltL : SWO ltL := ⟨fun x => by simp [ltL], fun x y z h1 h2 => by
    unfold ltL at *
    simp only [decide_eq_true_eq] at *; omega, fun x y z h1 h2 => by
    unfold ltL at *
    simp only [decide_eq_false_iff_not] at *; omega⟩
set_option maxRecDepth 100000 in
theorem less_L (blk off c Bs size : Nat) (W : World) (G : Nat → Dg) (hs : W.cell? ⟨Bs, 0, none⟩ = some (.slice (some ⟨blk, off, none⟩) size c))
    (h0 : ∀ t, t < size → W.cell? ⟨blk, off + t * 3 + 2, none⟩ = some (.int .i64 (G t).len)) (i j : Nat) (hi : i < size) (hj : j < size) (hsz : size < 4611686018427387904) :
    Calls Tryz.prog 104 #[.int .i64 i, .int .i64 j, .pointer (some ⟨Bs, 0, none⟩)] W fun e w' => e = .returned (.bool (ltL (G i) (G j))) ∧ ∃ q, w' = W.drewN q := by
  have ci := h0 i hi
  have cj := h0 j hj
  clear h0
  go_enter Tryz.func104, Tryz.ntmps104
  go_wp2
  go_quiet (fail)
  go_wp2
  go_ret
  exact ⟨rfl, nq, rfl⟩
set_option maxRecDepth 100000 in
theorem less_X (blk off c Bs size : Nat) (W : World) (G : Nat → Dg) (hs : W.cell? ⟨Bs, 0, none⟩ = some (.slice (some ⟨blk, off, none⟩) size c))
    (h0 : ∀ t, t < size → W.cell? ⟨blk, off + t * 3, none⟩ = some (.int .i64 (G t).x)) (h2 : ∀ t, t < size → W.cell? ⟨blk, off + t * 3 + 2, none⟩ = some (.int .i64 (G t).len)) (i j : Nat) (hi : i < size) (hj : j < size) (hsz : size < 4611686018427387904) :
    Calls Tryz.prog 116 #[.int .i64 i, .int .i64 j, .pointer (some ⟨Bs, 0, none⟩)] W fun e w' => e = .returned (.bool (ltX (G i) (G j))) ∧ ∃ q, w' = W.drewN q := by
  have ci := h0 i hi
  have cj := h0 j hj
  have di := h2 i hi
  have dj := h2 j hj
  clear h0 h2
  by_cases hx : (G i).x = (G j).x
  · have t1 : ((G i).x != (G j).x) = false := by simpa using hx
    have hl : ltX (G i) (G j) = decide ((G j).len < (G i).len) := by unfold ltX; rw [if_pos hx]
    rw [hl]
    clear hx hl
    go_enter Tryz.func116, Tryz.ntmps116
    go_wp2
    go_quiet (fail)
    go_wp2_with fail
    go_quiet (fail)
    go_wp2_with fail
    go_ret
    exact ⟨rfl, _, World.drewN_drewN _ _ _⟩
  · have t1 : ((G i).x != (G j).x) = true := by simpa using hx
    have hl : ltX (G i) (G j) = decide ((G i).x < (G j).x) := by unfold ltX; rw [if_neg hx]
    rw [hl]
    clear hx hl
    go_enter Tryz.func116, Tryz.ntmps116
    go_wp2
    go_quiet (fail)
    go_wp2_with fail
    go_quiet (fail)
    go_wp2_with fail
    go_ret
    exact ⟨rfl, _, World.drewN_drewN _ _ _⟩
end Go.Proofs.YtonajgipkpnpoaaGreatDoor.Gr
namespace Go.Proofs.YtonajgipkpnpoaaGreatDoor.Gr
open Go.Lib Go.Extern Go.Extern.Rtype
set_option linter.unusedVariables false
set_option linter.unusedSimpArgs false
section
variable {P : Program}
structure SlT (P : Program) (t e : TypeId) : Prop where
  under : ∃ t' i, (∀ w, (Rtype.under t).run P w = .ok (t', i) w) ∧ i.desc = .slice e
  und : P.underlying t = some (.slice e)
  pk : P.packed t = false
theorem nm_kind {t e : TypeId} (h : SlT P t e) (w : World) : (kind t).run P w = .ok 23 w := by
  obtain ⟨t', i, hu, hd⟩ := h.under
  simp [kind, hu, hd, Result.andThen]
theorem nm_elem {t e : TypeId} (h : SlT P t e) (w : World) : (elem? t).run P w = .ok (some e) w := by
  obtain ⟨t', i, hu, hd⟩ := h.under
  simp [elem?, hu, hd, Result.andThen]
theorem nm_valueOf {t e : TypeId} (h : SlT P t e) (p : Option Addr) (n c : Nat) (w : World) :
    (ReflectliteValue.unpack (.iface t (.slice p n c))).run P w = .ok (.agg #[typeHandle P t, .pointer (some ⟨w.heap.size, 0, none⟩), .int .u64 151]) (w.alloc (.cells #[.slice p n c] t)) := by
  simp [ReflectliteValue.unpack, ReflectliteValue.mk, newVar, newRow, handle, nm_kind h, Result.andThen, Value.cells, ReflectliteValue.flagIndir]
theorem nm_valueLen {t e : TypeId} (h : SlT P t e) (a : Addr) (p : Option Addr) (n c : Nat) (w : World) (ha : w.cell? a = some (.slice p n c)) :
    (ReflectliteValue.method (ReflectliteValue.valueError "reflectlite.Value.Len" 0) ReflectliteValue.len #[.agg #[typeHandle P t, .pointer (some a), .int .u64 151]]).run P w = .ok (.int .i64 n) w := by
  have hu := h.und
  obtain ⟨t', i, hun, hd⟩ := h.under
  rw [rl_method]
  simp only [Sem.run_bind, run_parts t a h.pk w, Result.andThen]
  simp [handleType, typeHandle, ReflectliteValue.len, hun, hd, loadVar, isAgg, underlying, hu, ha, Builtin.len_, goInt, Result.andThen]
theorem nm_swapper {t e : TypeId} (h : SlT P t e) (ie : TypeInfo) (hie : P.info? e = some ie) (ke : Nat) (hke : ∀ w, (kind e).run P w = .ok ke w)
    (p : Option Addr) (n c : Nat) (f : Nat) (hf : P.funcs.findIdx? (·.name == "internal/reflectlite" ++ ".Swapper$" ++ toString (swapperK n ie ke)) = some f) (w : World) :
    (ReflectliteSwapper.swapper "internal/reflectlite" (ReflectliteValue.valueError "Swapper") #[.iface t (.slice p n c)]).run P w
      = .ok (.func (.func f) #[] (if swapperK n ie ke ≤ 2 then #[] else #[.slice p n c, typeHandle P e])) w := by
  rw [rl_swapper]
  simp only [Sem.run_bind, nm_elem h, Result.andThen, rl_info e ie hie, hke, handle, Sem.run_pure]
  change Sem.run P (ReflectliteSwapper.literal "internal/reflectlite" (swapperK n ie ke) (if swapperK n ie ke ≤ 2 then #[] else #[.slice p n c, typeHandle P e])) w = _
  simp at hf
  simp [ReflectliteSwapper.literal, hf, Result.andThen]
end
open Go.RowKit Go.Shelf
noncomputable def svU : TypeInfo := (Tryz.prog.info? 114).get (by kernel_rfl)
theorem slT : SlT Tryz.prog 115 162 := ⟨⟨114, svU, fun _ => by kernel_rfl, by kernel_rfl⟩, by kernel_rfl, by kernel_rfl⟩
set_option maxRecDepth 100000 in
theorem slice_pdq (p : Option Addr) (n c f : Nat) (hn : n < 4611686018427387904) (sb : Array Value) (lf : Fn) (la lb : Array Value) (w : World) (R : World → Prop)
    (hs : ∀ w, (ReflectliteSwapper.swapper "internal/reflectlite" (ReflectliteValue.valueError "Swapper") #[.iface 115 (.slice p n c)]).run Tryz.prog w = .ok (.func (.func f) #[] sb) w)
    (hp : Calls Tryz.prog 122 #[.agg #[.func lf la lb, .func (.func f) #[] sb], .int .i64 0, .int .i64 n, .int .i64 (Lib.bitLen n)] ((w.alloc (.cells #[.slice p n c] 115)).alloc (.cells #[typeHandle Tryz.prog 115, .pointer (some ⟨w.heap.size, 0, none⟩), .int .u64 151] 185)) fun e w' => e = .returned (.tuple #[]) ∧ R w') :
    Calls Tryz.prog 103 #[.iface 115 (.slice p n c), .func lf la lb] w fun e w' => e = .returned (.tuple #[]) ∧ R w' := by
  have hv := nm_valueOf slT p n c w
  have hl := fun a w ha => nm_valueLen slT a p n c w ha
  have hb := fun w => Tryz.bits_Len (n : Int) w (by omega) (by omega)
  have wr : IntKind.u64.wrap (n : Int) = n := by simp [IntKind.wrap, IntKind.bits, IntKind.signed]; omega
  have hgs : Tryz.prog.globals.size = 4 := by kernel_rfl
  simp only [typeHandle, hgs] at hv hl hp
  rw [Int.toNat_natCast] at hb
  go_enter Tryz.func103, Tryz.ntmps103
  go_wp2
  rw [run_callFunc_extern Tryz.func118 (by kernel_rfl) (by kernel_rfl) (by kernel_rfl) (e := fun args => Extern.ReflectliteValue.unpack (args.getD 0 (.tuple #[]))) (by kernel_rfl),
    show Sem.run Tryz.prog ((fun args : Array Value => Extern.ReflectliteValue.unpack (args.getD 0 (.tuple #[]))) #[.iface 115 (.slice p n c)]) w = _ from hv]
  simp only [Result.andThen]
  rw [Oper.upon_value]
  go_wp2
  rw [run_callFunc_extern Tryz.func119 (by kernel_rfl) (by kernel_rfl) (by kernel_rfl) (e := Extern.ReflectliteSwapper.swapper "internal/reflectlite" (Extern.ReflectliteValue.valueError "Swapper")) (by kernel_rfl), hs]
  simp only [Result.andThen]
  rw [Oper.upon_value]
  go_wp2
  rw [run_callFunc_extern Tryz.func120 (by kernel_rfl) (by kernel_rfl) (by kernel_rfl) (e := Extern.ReflectliteValue.method (Extern.ReflectliteValue.valueError "reflectlite.Value.Len" 0) Extern.ReflectliteValue.len) (by kernel_rfl),
    hl _ _ (by simp)]
  simp only [Result.andThen]
  rw [Oper.upon_value]
  go_wp2_with (first
    | (go_at_call 121; refine (hb _).mono ?_; rintro e w' ⟨rfl, rfl⟩)
    | (go_at_call 122; refine hp.mono ?_; rintro e w' ⟨rfl, hR⟩))
  go_end0
  exact ⟨rfl, hR⟩
end Go.Proofs.YtonajgipkpnpoaaGreatDoor.Gr
namespace Go.Proofs.YtonajgipkpnpoaaGreatDoor.Gr
open Go.RowKit Go.Proofs.YtonajgipkpnpoaaGreatDoorW.PrintWords Go.Myers Go.Shelf Go.Lib Go.Sort Go.Extern
set_option linter.unusedVariables false
noncomputable def svE : TypeInfo := (Tryz.prog.info? 162).get (by kernel_rfl)
theorem svK (n : Nat) (h2 : 2 ≤ n) : Lib.swapperK n svE 25 = 9 := by
  have a : svE.hasPointers = false := by kernel_rfl
  have b : svE.bytes = 24 := by kernel_rfl
  have c : (n == 0) = false := by simp; omega
  have d : (n == 1) = false := by simp; omega
  simp [Lib.swapperK, a, b, c, d]
theorem sort_two (lt : Dg → Dg → Bool) (hO : SWO lt) (g : Nat) (lb : Array Value) (eg : ∀ args w, (callFunc g args).run Tryz.prog w = .ok (.enter g args) w) (blk c : Nat) (d : Array Dg) (h2 : 2 ≤ d.size) (hsz : d.size < 4611686018427387904) (w : World)
    (hless : LessReadsK Tryz.prog g lb cellsD 3 lt blk 0 d.size w) (hH : HoldsK cellsD 3 w blk 0 d) (hblk : blk < w.heap.size) :
    Calls Tryz.prog 103 #[.iface 115 (.slice (some ⟨blk, 0, none⟩) d.size c), .func (.func g) #[] lb] w fun e w' =>
      e = .returned (.tuple #[]) ∧ ∃ d' n os, PermIn 0 d.size d d' ∧ SortedIn lt 0 d.size d' ∧ w' = grow (putRowK cellsD 3 (Sort.ahead w n) blk 0 d') os := by
  have hie : Tryz.prog.info? 162 = some svE := by kernel_rfl
  refine slice_pdq (some ⟨blk, 0, none⟩) d.size c 135 hsz #[.slice (some ⟨blk, 0, none⟩) d.size c, typeHandle Tryz.prog 162] (.func g) #[] lb w _ (fun w => ?_) ?_
  · rw [nm_swapper slT svE hie 25 (fun _ => by kernel_rfl) _ _ _ 135 (by rw [svK _ h2]; kernel_rfl), if_neg (by rw [svK _ h2]; omega)]
  · rw [alloc_eq_grow, alloc_eq_grow, grow_grow]
    generalize (#[Obj.cells #[.slice (some ⟨blk, 0, none⟩) d.size c] 115] ++ #[Obj.cells #[typeHandle Tryz.prog 115, .pointer (some ⟨w.heap.size, 0, none⟩), .int .u64 151] 185] : Array Obj) = os0
    have hx : ∀ args W, (callFunc 135 args).run Tryz.prog W = ((Extern.ReflectliteSwapper.swap false args).run Tryz.prog W).andThen fun v w' => .ok (.value v) w' := fun args W => run_callFunc_extern Tryz.func135 (by kernel_rfl) (by kernel_rfl) (by kernel_rfl) (e := Extern.ReflectliteSwapper.swap false) (by kernel_rfl) args W
    have hp := Tryz.pdqsort_func_cells_all cellsD 3 (fun _ => rfl) lt hO g lb 135 _ eg (d.size + 1) blk 0 0 d.size (Lib.bitLen d.size) d (grow w os0) (by omega) (hless.grow hblk os0)
      (swapSwapsK_of_literal false _ hx 162 svE hie cellsD 3 (fun _ => rfl) (by kernel_rfl) (fun _ => by kernel_rfl) (fun x v hv => by simp [cellsD] at hv; rcases hv with rfl | rfl | rfl <;> rfl) blk 0 d.size c) (holdsK_grow cellsD 3 w _ blk 0 d hblk hH) (by rw [size_grow]; omega) (Nat.zero_le _) (Nat.le_refl _) hsz (Nat.lt_of_le_of_lt (Lib.bitLen_le d.size 62 (by omega) (by omega)) (by omega)) (Or.inl rfl)
    refine hp.mono ?_
    rintro e w' ⟨rfl, n, os, rfl⟩
    have h := pdq_sorts lt hO d 0 d.size (Lib.bitLen d.size) true true (Nat.zero_le _) (Nat.le_refl _) (Or.inl rfl)
    exact ⟨rfl, _, n, _, h.1, h.2, by rw [ahead_grow, putRowK_grow cellsD 3 (Sort.ahead w n) _ blk 0 _ hblk, grow_grow]⟩
end Go.Proofs.YtonajgipkpnpoaaGreatDoor.Gr
namespace Go.Proofs.YtonajgipkpnpoaaGreatDoor.Gr
open Go.RowKit Go.Proofs.YtonajgipkpnpoaaGreatDoorW.PrintWords Go.Myers Go.Shelf Go.Lib Go.Sort Go.Extern
set_option linter.unusedVariables false
theorem cells_world {w : World} {blk Bs c : Nat} {d : Array Dg} (hH : HoldsK cellsD 3 w blk 0 d) (hblk : blk < w.heap.size) (hBs : w.cell? ⟨Bs, 0, none⟩ = some (.slice (some ⟨blk, 0, none⟩) d.size c)) (hB1 : Bs < w.heap.size) (hB2 : Bs ≠ blk) (m : Nat) (os : Array Obj) (dk : Array Dg) (hs : dk.size = d.size) :
    (sortWorldK cellsD 3 w blk 0 m dk os).cell? ⟨Bs, 0, none⟩ = some (.slice (some ⟨blk, 0, none⟩) d.size c) ∧ ∀ t, t < d.size → (sortWorldK cellsD 3 w blk 0 m dk os).cell? ⟨blk, 0 + t * 3, none⟩ = some (.int .i64 (dk[t]!).x) ∧ (sortWorldK cellsD 3 w blk 0 m dk os).cell? ⟨blk, 0 + t * 3 + 2, none⟩ = some (.int .i64 (dk[t]!).len) := by
  have e : sortWorldK cellsD 3 w blk 0 m dk os = putRowK cellsD 3 (grow (Sort.ahead w m) os) blk 0 dk := by
    unfold sortWorldK; rw [putRowK_grow _ _ (Sort.ahead w m) _ blk 0 _ hblk]
  have hHg : HoldsK cellsD 3 (grow (Sort.ahead w m) os) blk 0 d := holdsK_grow _ _ _ _ blk 0 d hblk (holdsK_ahead _ _ _ _ _ _ _ hH)
  refine ⟨?_, fun t ht => ⟨?_, ?_⟩⟩
  · rw [e, cell?_putRowK_other _ _ _ blk 0 dk _ (by exact hB2), cell?_grow _ _ _ (by exact hB1)]; exact hBs
  · rw [e]; exact ((holdsK_putRowK _ _ _ blk 0 d dk hHg hs).cell (i := t) (c := 0) (by omega) (by omega)).1
  · rw [e]; exact ((holdsK_putRowK _ _ _ blk 0 d dk hHg hs).cell (i := t) (c := 2) (by omega) (by omega)).1
theorem lessK_X {w : World} {blk Bs c : Nat} {d : Array Dg} (hH : HoldsK cellsD 3 w blk 0 d) (hblk : blk < w.heap.size) (hsz : d.size < 4611686018427387904) (hBs : w.cell? ⟨Bs, 0, none⟩ = some (.slice (some ⟨blk, 0, none⟩) d.size c)) (hB1 : Bs < w.heap.size) (hB2 : Bs ≠ blk) :
    LessReadsK Tryz.prog 116 #[.pointer (some ⟨Bs, 0, none⟩)] cellsD 3 ltX blk 0 d.size w := fun m os dk hs i j hi hj => by
  obtain ⟨h1, h2⟩ := cells_world hH hblk hBs hB1 hB2 m os dk hs
  exact less_X blk 0 c Bs d.size _ (fun t => dk[t]!) h1 (fun t ht => (h2 t ht).1) (fun t ht => (h2 t ht).2) i j hi hj hsz
theorem lessK_L {w : World} {blk Bs c : Nat} {d : Array Dg} (hH : HoldsK cellsD 3 w blk 0 d) (hblk : blk < w.heap.size) (hsz : d.size < 4611686018427387904) (hBs : w.cell? ⟨Bs, 0, none⟩ = some (.slice (some ⟨blk, 0, none⟩) d.size c)) (hB1 : Bs < w.heap.size) (hB2 : Bs ≠ blk) :
    LessReadsK Tryz.prog 104 #[.pointer (some ⟨Bs, 0, none⟩)] cellsD 3 ltL blk 0 d.size w := fun m os dk hs i j hi hj => by
  obtain ⟨h1, h2⟩ := cells_world hH hblk hBs hB1 hB2 m os dk hs
  exact less_L blk 0 c Bs d.size _ (fun t => dk[t]!) h1 (fun t ht => (h2 t ht).2) i j hi hj hsz
theorem sort_tiny (p : Option Addr) (n c : Nat) (h1 : n ≤ 1) (lf : Fn) (la lb : Array Value) (w : World) :
    Calls Tryz.prog 103 #[.iface 115 (.slice p n c), .func lf la lb] w fun e w' => e = .returned (.tuple #[]) ∧ ∃ os, w' = grow w os := by
  have hie : Tryz.prog.info? 162 = some svE := by kernel_rfl
  have hf : ∃ f, Tryz.prog.funcs.findIdx? (·.name == "internal/reflectlite" ++ ".Swapper$" ++ toString (swapperK n svE 25)) = some f ∧ swapperK n svE 25 ≤ 2 := by
    match n, h1 with
    | 0, _ => exact ⟨127, by kernel_rfl, by simp [swapperK]⟩
    | 1, _ => exact ⟨128, by kernel_rfl, by simp [swapperK]⟩
  obtain ⟨f, hf, hk⟩ := hf
  refine slice_pdq p n c f (by omega) #[] lf la lb w _ (fun w => ?_) ?_
  · rw [nm_swapper slT svE hie 25 (fun _ => by kernel_rfl) _ _ _ f hf, if_pos hk]
  · refine (Any.pdqsort_func_tiny Tryz.laysGg14 lf la lb f #[] n h1 _ _).mono ?_
    rintro e w' ⟨rfl, rfl⟩
    exact ⟨rfl, _, by rw [alloc_eq_grow, alloc_eq_grow, alloc_eq_grow, alloc_eq_grow, grow_grow, grow_grow, grow_grow]⟩
end Go.Proofs.YtonajgipkpnpoaaGreatDoor.Gr
namespace Go.Proofs.YtonajgipkpnpoaaGreatDoor.Gr
open Go.RowKit Go.Proofs.YtonajgipkpnpoaaGreatDoorW.PrintWords Go.Myers Go.Shelf Go.Lib Go.Sort Go.Extern
set_option linter.unusedVariables false
theorem rowD_at (l : List Dg) (j : Nat) (hj : j < l.length * 3) : (rowD l)[j]? = some ((cellsD (l.toArray[j / 3]!))[j % 3]!) := by
  have hi : j / 3 < l.length := by omega
  have hg := rowD_get l (j / 3) (l[j / 3]) (List.getElem?_eq_getElem hi)
  have e : l.toArray[j / 3]! = l[j / 3] := by simp [hi]
  rw [e]
  have h3 : j % 3 = 0 ∨ j % 3 = 1 ∨ j % 3 = 2 := by omega
  rcases h3 with h | h | h
  · rw [h]
    have : j = j / 3 * 3 := by omega
    rw [show (rowD l)[j]? = (rowD l)[j / 3 * 3]? by rw [← this]]; exact hg.1
  · rw [h]
    have : j = j / 3 * 3 + 1 := by omega
    rw [show (rowD l)[j]? = (rowD l)[j / 3 * 3 + 1]? by rw [← this]]; exact hg.2.1
  · rw [h]
    have : j = j / 3 * 3 + 2 := by omega
    rw [show (rowD l)[j]? = (rowD l)[j / 3 * 3 + 2]? by rw [← this]]; exact hg.2.2
theorem holds_own {W : World} {B g cap : Nat} {l : List Dg} (h : DgRow W B (.slice (some ⟨g, 0, none⟩) l.length cap) l) : HoldsK cellsD 3 W g 0 l.toArray := fun j hj => by
  rw [size_flatK] at hj
  have hj' : j < l.length * 3 := by simpa using hj
  have := own_at h j _ (rowD_at l j hj')
  rw [get_flatK _ _ _ _ hj, Nat.zero_add]
  exact this
theorem own_sorted {W : World} {B g cap : Nat} {l : List Dg} (h : DgRow W B (.slice (some ⟨g, 0, none⟩) l.length cap) l) (d' : Array Dg) (hs : d'.size = l.length) (m : Nat) (os : Array Obj) :
    DgRow (grow (putRowK cellsD 3 (Sort.ahead W m) g 0 d') os) B (.slice (some ⟨g, 0, none⟩) l.length cap) d'.toList ∧ W.grownBy (grow (putRowK cellsD 3 (Sort.ahead W m) g 0 d') os) (some g) := by
  rcases h.2 with ⟨h0, _⟩ | ⟨g', cap', cur, hv, hB, hh, h1, h2, h3, h4⟩
  · cases h0
  · have : g = g' := by injection hv with hv; injection hv with hv; injection hv with hv
    subst this
    have : cap = cap' := by injection hv
    subst this
    have hlt : g < W.heap.size := blk_lt hh
    have hheap : (grow (putRowK cellsD 3 (Sort.ahead W m) g 0 d') os).heap[g]? = some (.cells (putCells id 0 (flatK cellsD 3 d') cur) 162 (0, 0)) := by
      rw [heap_grow_old _ _ (by rw [size_putRowK]; exact hlt)]
      simp [putRowK, putRow, mapBlock, Sort.ahead, Array.getElem?_modify, hh, onCells]
    have hl : d'.toList.length = l.length := by simpa using hs
    unfold DgRow
    rw [hl]
    refine ⟨⟨by rw [rowD_length, hl], Or.inr ⟨g, cap, _, rfl, hB, hheap, h1, h2, by simp [putCells, h3], ?_⟩⟩, ⟨rfl, rfl, rfl, by rw [size_grow, size_putRowK]; exact Nat.le_add_right _ _, fun k hk hne => ?_⟩⟩
    · apply List.ext_getElem?
      intro i
      by_cases hi : i < l.length * 3
      · have hcur : i < cur.size := by rw [h3]; have := Nat.mul_le_mul_right 3 h1; omega
        rw [List.getElem?_take, if_pos hi, Array.getElem?_toList, rowD_at _ _ (by rw [hl]; exact hi)]
        have hf : i < (flatK cellsD 3 d').size := by rw [size_flatK, hs]; exact hi
        simp only [putCells, Array.getElem?_mapIdx, Array.getElem?_eq_getElem hcur, Option.map_some]
        rw [if_pos ⟨Nat.zero_le _, by omega⟩, Nat.sub_zero, get_flatK _ _ _ _ (by rw [hs]; exact hi)]
        rfl
      · rw [List.getElem?_take, if_neg hi, List.getElem?_eq_none (by rw [rowD_length, hl]; omega)]
    · rw [heap_grow_old _ _ (by rw [size_putRowK]; exact hk)]
      have : g ≠ k := fun e => hne (by rw [e])
      simp [putRowK, putRow, mapBlock, Sort.ahead, Array.getElem?_modify, this]
theorem slice_any {lt : Dg → Dg → Bool} (hO : SWO lt) {gc : Nat} (eg : ∀ args w, (callFunc gc args).run Tryz.prog w = .ok (.enter gc args) w)
    (hless : ∀ {w : World} {blk Bs c : Nat} {d : Array Dg}, HoldsK cellsD 3 w blk 0 d → blk < w.heap.size → d.size < 4611686018427387904 → w.cell? ⟨Bs, 0, none⟩ = some (.slice (some ⟨blk, 0, none⟩) d.size c) → Bs < w.heap.size → Bs ≠ blk → LessReadsK Tryz.prog gc #[.pointer (some ⟨Bs, 0, none⟩)] cellsD 3 lt blk 0 d.size w)
    (W : World) (B Bs : Nat) (v : Value) (l : List Dg) (h : DgRow W B v l) (hc : W.cell? ⟨Bs, 0, none⟩ = some v) (hn : v.ownBlock ≠ some Bs) (hl : l.length < 4611686018427387904) :
    Calls Tryz.prog 103 #[.iface 115 v, .func (.func gc) #[] #[.pointer (some ⟨Bs, 0, none⟩)]] W fun e w' => e = .returned (.tuple #[]) ∧ ∃ l', DgRow w' B v l' ∧ W.grownBy w' v.ownBlock ∧ l.Perm l' ∧ l'.Pairwise (fun a b => lt b a = false) := by
  obtain ⟨A, cap, rfl⟩ := own_slice h
  by_cases h2 : l.length ≤ 1
  · refine (sort_tiny A l.length cap h2 _ _ _ W).mono ?_
    rintro e w' ⟨rfl, os, rfl⟩
    have hb : Below W.heap.size W (grow W os) := ⟨rfl, rfl, rfl, by rw [size_grow]; omega, fun k hk => heap_grow_old _ _ hk⟩
    refine ⟨rfl, l, h.below hb, ⟨rfl, rfl, rfl, hb.size, fun k hk _ => hb.block k hk⟩, List.Perm.refl _, ?_⟩
    match l, h2 with
    | [], _ => exact List.Pairwise.nil
    | [a], _ => exact List.pairwise_singleton _ _
  · rcases h.2 with ⟨h0, h00⟩ | ⟨g, cap', cur, hv, hB, hh, h1, h2', h3, h4⟩
    · omega
    · have : A = some ⟨g, 0, none⟩ := by injection hv
      subst this
      have hH := holds_own h
      have hlt := blk_lt hh
      have hne : Bs ≠ g := fun e => hn (by rw [e]; rfl)
      have hs : l.toArray.size = l.length := by simp
      have hBs : Bs < W.heap.size := World.block_lt_of_cell? W ⟨Bs, 0, none⟩ hc
      have := sort_two lt hO gc #[.pointer (some ⟨Bs, 0, none⟩)] eg g cap l.toArray (by omega) (by rw [hs]; exact hl) W (hless hH hlt (by rw [hs]; exact hl) (by rw [hs]; exact hc) hBs hne) hH hlt
      rw [hs] at this
      refine this.mono ?_
      rintro e w' ⟨rfl, d', m, os, hp, hso, rfl⟩
      have hds : d'.size = l.length := by rw [hp.1, hs]
      obtain ⟨r1, r2⟩ := own_sorted h d' hds m os
      refine ⟨rfl, d'.toList, r1, r2, ?_, ?_⟩
      · have := hp.2.2
        rw [← hs] at this
        rw [show l.toArray.size = d'.size by omega, Array.extract_size] at this
        rw [show d'.size = l.toArray.size by omega, Array.extract_size] at this
        exact this.symm
      · rw [List.pairwise_iff_getElem]
        intro i j hi hj hij
        have hi' : i < d'.size := by simpa using hi
        have hj' : j < d'.size := by simpa using hj
        have := hso i j (Nat.zero_le _) hij (by omega)
        rw [getElem!_pos d' i hi', getElem!_pos d' j hj'] at this
        simpa using this
theorem slice_L (W : World) (B Bs : Nat) (v : Value) (l : List Dg) (h : DgRow W B v l) (hc : W.cell? ⟨Bs, 0, none⟩ = some v) (hn : v.ownBlock ≠ some Bs) (hl : l.length < 4611686018427387904) :
    Calls Tryz.prog 103 #[.iface 115 v, .func (.func 104) #[] #[.pointer (some ⟨Bs, 0, none⟩)]] W fun e w' => e = .returned (.tuple #[]) ∧ ∃ l', DgRow w' B v l' ∧ W.grownBy w' v.ownBlock ∧ l.Perm l' ∧ l'.Pairwise (fun a b => ltL b a = false) :=
  slice_any swo_ltL (gc := 104) (fun _ _ => by kernel_rfl) lessK_L W B Bs v l h hc hn hl
set_option maxRecDepth 100000 in
theorem lcs_sort (W : World) (B : Nat) (hB : B ≤ W.heap.size) (v : Value) (l : List Dg) (h : DgRow W B v l) (hl : l.length < 4611686018427387904) :
    Calls Tryz.prog 98 #[v] W fun e w' => ∃ l', e = .returned v ∧ DgRow w' B v l' ∧ W.grownBy w' v.ownBlock ∧ l.Perm l' ∧ l'.Pairwise (fun a b => a.x ≤ b.x) := by
  obtain ⟨A, cap, rfl⟩ := own_slice h
  have hb1 : Below W.heap.size W (W.alloc (.cells #[.slice A l.length cap] 115)) := below_alloc (Below.refl _ _) _
  have hc1 : (W.alloc (.cells #[.slice A l.length cap] 115)).cell? ⟨W.heap.size, 0, none⟩ = some (.slice A l.length cap) := (blk_cell (new_obj W _) 0).trans rfl
  have hn : (Value.slice A l.length cap).ownBlock ≠ some W.heap.size := fun e => by have := own_lt h _ e; omega
  have hs := slice_any swo_ltX (gc := 116) (fun _ _ => by kernel_rfl) lessK_X (W.alloc (.cells #[.slice A l.length cap] 115)) B W.heap.size _ l (h.below hb1) hc1 hn hl
  have HN := Lib.hid hn
  have HC := Lib.hid hc1
  have HB := Aside0.mk hb1
  clear hn hb1 h
  go_enter Tryz.func98, Tryz.ntmps98
  go_upto_region 2 with (go_at_call 103; refine hs.mono ?_; rintro e w2 ⟨rfl, l', hr, hg, hp, hx⟩)
  have hc2 : w2.cell? ⟨W.heap.size, 0, none⟩ = some (.slice A l.length cap) := hg.cell HC.out (fun e => HN.out e.symm)
  have HR := Aside0.mk hr
  have HG := Aside0.mk hg
  have HP := Aside0.mk hp
  have HX := Aside0.mk hx
  clear hr hg hp hx hs hc1
  go_wp2_with fail
  go_ret
  refine ⟨l', rfl, HR.out, ⟨HG.out.os, HG.out.tape, HG.out.output, by have := HG.out.size; simp at this; omega, fun k hk hne => (HG.out.block k (by simp; omega) hne).trans (HB.out.block k hk)⟩, HP.out, HX.out.imp (fun {a b} h => ?_)⟩
  unfold ltX at h
  split at h
  · omega
  · simp at h; omega
end Go.Proofs.YtonajgipkpnpoaaGreatDoor.Gr
namespace Go.Proofs.YtonajgipkpnpoaaGreatDoor.Gr
open Go.RowKit Go.Proofs.YtonajgipkpnpoaaGreatDoorW.PrintWords Go.Myers
set_option linter.unusedVariables false
def TwA (c : Cx) (w' : World) (v : Value) (l : List Dg) : Prop :=
  ∃ F', Step c.W0 w' c.F0 F' ∧ DgRow w' c.W0.heap.size v l ∧ Chain c.E c.N c.M l 0 0
def TwPost (c : Cx) (e : Ending) (w' : World) : Prop := ∃ v l, e = .returned v ∧ TwA c w' v l
theorem Step.grown {W W1 W2 : World} {F F' : Nat → Prop} {row : Option Nat} (h : Step W W1 F F') (hg : W1.grownBy W2 row) (hr : ∀ k, row = some k → W.heap.size ≤ k) : Step W W2 F F' :=
  ⟨hg.os.trans h.os, hg.tape.trans h.tape, hg.output.trans h.output, Nat.le_trans h.size hg.size, fun k hk hF => (hg.block k (Nat.lt_of_lt_of_le hk h.size) (fun e => by have := hr k e.symm; omega)).trans (h.keep k hk hF), h.new⟩
theorem blk_other (w : World) {g k : Nat} (i : Nat) (u : Value) (h : k ≠ g) : (w.setCell ⟨g, i, none⟩ u).heap[k]? = w.heap[k]? := Below.heap_setCell _ _ _ _ h
theorem Step.put {W W1 : World} {F F' : Nat → Prop} {g : Nat} (h : Step W W1 F F') (hg : F g ∨ W.heap.size ≤ g) (i : Nat) (v : Value) : Step W (W1.setCell ⟨g, i, none⟩ v) F F' :=
  ⟨h.os, h.tape, h.output, by simpa using h.size, fun k hk hF => (blk_other W1 i v (fun e => hg.elim (fun hg => hF (by rw [e]; exact hg)) (fun hg => by omega))).trans (h.keep k hk hF), h.new⟩
theorem chain_len {E : Nat → Nat → Bool} {N M : Nat} {l : List Dg} {px py : Int} (h : Chain E N M l px py) (h0 : 0 ≤ px) (h1 : px ≤ N) (h2 : py ≤ M) : (l.length : Int) ≤ N := by
  have a := chain_end l px py h
  have b := chain_le l px py h1 h2 h
  omega
section
variable {c : Cx} {w w1 w2 w3 w4 : World} {Df Db : Nat} {Kf Kb : Int → Prop} {v1 v2 v3 : Value} {l1 l2 l' : List Dg}
theorem dg_append {B : Nat} {A : Option Addr} {cap : Nat} (h : w3.ownsRow B 162 3 (.slice A (l1.length + l2.length) cap) (l1.length + l2.length) (rowD l1 ++ rowD l2)) : DgRow w3 B (.slice A (l1.length + l2.length) cap) (l1 ++ l2) := by
  unfold DgRow
  rw [rowD_append, List.length_append]
  exact h
theorem TwA.one {X Y : Nat} (h : GS c X Y w Df Kf Db Kb) (hr : DgRow w1 w.heap.size v1 l1) (hb : Below w.heap.size w w1) (hc : Chain c.E c.N c.M l1 0 0) : TwA c w1 v1 l1 := by
  obtain ⟨F, nf, Lf, nb, Lb, s1, _⟩ := h
  exact ⟨F, s1.trans (Step.of_below hb), own_base_mono hr s1.size, hc⟩
theorem TwA.both {X Y : Nat} (h : GS c X Y w Df Kf Db Kb) (b1 : Below w.heap.size w w1) (r1 : DgRow w1 w.heap.size v1 l1) (b2 : Below w1.heap.size w1 w2) (g3 : w2.grownBy w3 v1.ownBlock) (r3 : DgRow w3 w.heap.size v3 (l1 ++ l2)) (g4 : w3.grownBy w4 v3.ownBlock) (r4 : DgRow w4 w.heap.size v3 l') (hp : (l1 ++ l2).Perm l') (hx : l'.Pairwise (fun a b => a.x ≤ b.x)) (hc : Chain c.E c.N c.M (l1 ++ l2) 0 0) : TwA c w4 v3 l' := by
  have b12 := b1.trans (b2.mono b1.size)
  have b3 := b12.grown g3 b12.size (fun k hk => own_base r1 k hk)
  have b4 := b3.grown g4 b3.size (fun k hk => own_base r3 k hk)
  exact TwA.one h r4 b4 (chain_perm hc hp hx)
theorem TwA.both' {X Y : Nat} (h : GS c X Y w Df Kf Db Kb) (b1 : Below w.heap.size w w1) (r1 : DgRow w1 w.heap.size v1 l1) (b2 : Below w1.heap.size w1 w2) (g3 : w2.grownBy w3 v1.ownBlock) (r3 : DgRow w3 w.heap.size v3 (l1 ++ l2)) (g4 : w3.grownBy w4 v3.ownBlock) (r4 : DgRow w4 w.heap.size v3 l') (hp : (l1 ++ l2).Perm l') (hx : l'.Pairwise (fun a b => a.x ≤ b.x)) (hc : Chain c.E c.N c.M (l2 ++ l1) 0 0) : TwA c w4 v3 l' := by
  have b12 := b1.trans (b2.mono b1.size)
  have b3 := b12.grown g3 b12.size (fun k hk => own_base r1 k hk)
  have b4 := b3.grown g4 b3.size (fun k hk => own_base r3 k hk)
  exact TwA.one h r4 b4 (chain_perm hc (List.perm_append_comm.trans hp) hx)
def Cx.at (c : Cx) (w : World) (F : Nat → Prop) : Cx := ⟨w, c.B, c.ge, c.sq, c.lim, c.N, c.M, F, c.E⟩
theorem GS.box {X Y : Nat} (ho : c.ok) (h : GS c X Y w Df Kf Db Kb) (b1 : Below w.heap.size w w1) (X' Y' : Nat) :
    ∃ F w', w' = (w1.setCell ⟨c.ge, 6, none⟩ (.int .i64 X')).setCell ⟨c.ge, 7, none⟩ (.int .i64 Y') ∧ Step c.W0 w c.F0 F ∧ F c.ge ∧ (∀ k, F k → k < w.heap.size) ∧ (c.at w' F).ok ∧ GS (c.at w' F) X' Y' w' 0 (fun _ => False) Db Kb ∧ Below w.heap.size w w1 := by
  obtain ⟨F, nf, Lf, nb, Lb, s1, he, hq, h4, h5⟩ := h
  have hsz := he.size
  have hlo := he.lo
  have hbs := he.base
  obtain ⟨vf, vb, Ff, Fb, h2⟩ := he
  have hge : F c.ge := (h2.F _).2 (Or.inr (Or.inr rfl))
  have hgl := hsz _ hge
  have sb : Step w w1 F F := Step.of_below b1
  have hs : Step w ((w1.setCell ⟨c.ge, 6, none⟩ (.int .i64 X')).setCell ⟨c.ge, 7, none⟩ (.int .i64 Y')) F F := (sb.put (Or.inl hge) 6 _).put (Or.inl hge) 7 _
  have hk : ∀ k, F k → k ≠ c.ge → ((w1.setCell ⟨c.ge, 6, none⟩ (.int .i64 X')).setCell ⟨c.ge, 7, none⟩ (.int .i64 Y')).heap[k]? = w.heap[k]? := fun k hF hne => ((blk_other _ _ _ hne).trans (blk_other _ _ _ hne)).trans (b1.block k (hsz k hF))
  have hc1 : w1.heap[c.ge]? = _ := (b1.block _ hgl).trans h2.cells
  refine ⟨F, _, rfl, s1, hge, hsz, ⟨ho.hN, ho.hM, ho.hlim, hlo, Nat.le_trans hbs hs.size⟩, ⟨F, nf, Lf, nb, Lb, Step.refl _ _, ⟨vf, vb, Ff, Fb, ?_, h2.tf.move hs.size (fun k hF => hk k ((h2.F k).2 (Or.inl hF)) (fun e => h2.gf (by rw [← e]; exact hF))), h2.tb.move hs.size (fun k hF => hk k ((h2.F k).2 (Or.inr (Or.inl hF))) (fun e => h2.gb (by rw [← e]; exact hF))), h2.dis, h2.gf, h2.gb, h2.F, h2.lo⟩, hq.step hs, ⟨fun d k hd => by omega, fun k hk => hk.elim, Nat.zero_le _, fun k hk => hk.elim⟩, h5⟩, b1⟩
  exact blk_set (blk_set hc1 6 _) 7 _
theorem TwA.boxed {F : Nat → Prop} {wb : World} {x6 x7 : Value} (s0 : Step c.W0 w c.F0 F) (hge : F c.ge) (hsz : ∀ k, F k → k < w.heap.size) (b1 : Below w.heap.size w w1) (r1 : DgRow w1 w.heap.size v1 l1) (hwb : wb = (w1.setCell ⟨c.ge, 6, none⟩ x6).setCell ⟨c.ge, 7, none⟩ x7) {F' : Nat → Prop} (s2 : Step wb w2 F F')
    (g3 : w2.grownBy w3 v1.ownBlock) (r3 : DgRow w3 w.heap.size v3 (l1 ++ l2)) {y6 y7 : Value} (g4 : ((w3.setCell ⟨c.ge, 6, none⟩ y6).setCell ⟨c.ge, 7, none⟩ y7).grownBy w4 v3.ownBlock) (r4 : DgRow w4 w.heap.size v3 l') (hp : (l1 ++ l2).Perm l') (hx : l'.Pairwise (fun a b => a.x ≤ b.x)) (hc : Chain c.E c.N c.M (l2 ++ l1) 0 0) : TwA c w4 v3 l' := by
  subst hwb
  have sb : Step w w1 F F := Step.of_below b1
  have t2 : Step w w2 F F' := ((sb.put (Or.inl hge) 6 _).put (Or.inl hge) 7 _).trans s2
  have t3 := t2.grown g3 (fun k hk => own_base r1 k hk)
  have t4 := ((t3.put (Or.inl hge) 6 y6).put (Or.inl hge) 7 y7).grown g4 (fun k hk => own_base r3 k hk)
  exact ⟨F', s0.trans t4, own_base_mono r4 s0.size, chain_perm hc (List.perm_append_comm.trans hp) hx⟩
def FwBox (c : Cx) (F : Nat → Prop) (wb : World) (u v : Int) (e : Ending) (w' : World) : Prop :=
  ∃ v2 l2 F', e = .returned v2 ∧ Step wb w' F F' ∧ DgRow w' wb.heap.size v2 l2 ∧ Chain c.E u.toNat v.toNat l2 0 0 ∧ ∃ cs, w'.heap[c.ge]? = some (.cells cs 139 (0, 0)) ∧ cs[6]? = some (.int .i64 u) ∧ cs[7]? = some (.int .i64 v)
theorem fw_box {X Y : Nat} (ho : c.ok) (h : GS c X Y w Df Kf Db Kb) (b1 : Below w.heap.size w w1) (u v : Int) (h1 : 0 ≤ u) (h2 : u ≤ c.N) (h3 : 0 ≤ v) (h4 : v ≤ c.M) :
    ∃ F wb, wb = (w1.setCell ⟨c.ge, 6, none⟩ (.int .i64 u)).setCell ⟨c.ge, 7, none⟩ (.int .i64 v) ∧ Step c.W0 w c.F0 F ∧ F c.ge ∧ (∀ k, F k → k < w.heap.size) ∧ w.heap.size ≤ wb.heap.size ∧ Calls Tryz.prog 100 #[.pointer (some ⟨c.ge, 0, none⟩)] ((w1.setCell ⟨c.ge, 6, none⟩ (.int .i64 u)).setCell ⟨c.ge, 7, none⟩ (.int .i64 v)) (FwBox c F wb u v) := by
  obtain ⟨u, rfl⟩ : ∃ n : Nat, u = n := ⟨u.toNat, by omega⟩
  obtain ⟨v, rfl⟩ : ∃ n : Nat, v = n := ⟨v.toNat, by omega⟩
  obtain ⟨F, wb, rfl, s0, hge, hsz, ok', hg, _⟩ := GS.box ho h b1 u v
  refine ⟨F, _, rfl, s0, hge, hsz, by simpa using b1.size, (forward_any _ ok' (X := u) (Y := v) (by show u ≤ c.N; omega) (by show v ≤ c.M; omega) hg).mono ?_⟩
  rintro e w' ⟨v2, l2, rfl, F', s2, r2, c2, vf, vb, hb⟩
  exact ⟨v2, l2, F', rfl, s2, r2, c2, _, hb, rfl, rfl⟩
theorem row_step {W W' : World} {F F' : Nat → Prop} {B : Nat} {v : Value} {l : List Dg} (h : DgRow W B v l) (hs : Step W W' F F') (hF : ∀ k, F k → k < B) : DgRow W' B v l :=
  own_move h (fun k hk => hs.keep k (own_lt h k hk) (fun hf => by have := hF k hf; have := own_base h k hk; omega))
theorem row_put {W : World} {B g : Nat} {v : Value} {l : List Dg} (h : DgRow W B v l) (hg : g < B) (i : Nat) (x : Value) : DgRow (W.setCell ⟨g, i, none⟩ x) B v l :=
  own_move h (fun k hk => blk_other _ _ _ (fun e => by have := own_base h k hk; omega))
end
end Go.Proofs.YtonajgipkpnpoaaGreatDoor.Gr
