/- Edits in a row of one's own: sorted or not; a copy; sorted in place. validate: edits that can be applied, in their order. strings.Builder: copyCheck and WriteString, at this program (after the shelf's own walk). -/
import Derived.Test.YtonajgipkpnpoaaGreatDoorC08
import Derived.Test.YtonajgipkpnpoaaGreatDoorC20
import Derived.Test.YtonajgipkpnpoaaGreatDoorC21
import Derived.Lib.Hide
import Derived.WalkSpells
import Derived.Deep.LoopGhost
import Derived.Deep.DeepCutAuto
import Derived.Shelf.Strings.BuilderK
import Derived.Shelf.Strings.BuilderX
namespace Go.Proofs.YtonajgipkpnpoaaGreatDoor.Un
open Go.RowKit Go.Sort Go.Sst Go.Proofs.YtonajgipkpnpoaaGreatDoorW.PrintWords Go.Proofs.YtonajgipkpnpoaaGreatDoorW.PrintLast Go.Proofs.YtonajgipkpnpoaaGreatDoorW.PrintMore Go.Uni
open Go.Proofs.YtonajgipkpnpoaaGreatDoor.SortM Go.Proofs.YtonajgipkpnpoaaGreatDoor.SortS Go.Proofs.YtonajgipkpnpoaaGreatDoor.SortU
set_option linter.unusedVariables false
set_option linter.unusedSimpArgs false
def bE (y : BE) : E := ⟨(y.s : Int), (y.e : Int), mkS y.new⟩
theorem rowE_flat (es : List BE) : rowE es = flat (es.map bE) := by
  unfold rowE flat
  rw [List.flatMap_map]
  rfl
theorem flat_at (xs : List E) (t : Nat) (ht : t < xs.length * 3) : (flat xs)[t]? = (enc (xs[t / 3]'(by omega)))[t % 3]? := by
  have hd : t / 3 < xs.length := by omega
  have hg := flat_get xs (t / 3) (xs[t / 3]'hd) (List.getElem?_eq_getElem hd)
  rw [← hg, List.getElem?_take, if_pos (by omega), List.getElem?_drop, show t / 3 * 3 + t % 3 = t by omega]
theorem holds_of_own {w : World} {base : Nat} {A : Option Addr} {n cap : Nat} {xs : List E} (h : w.ownsRow base 68 3 (.slice A n cap) n (flat xs)) (hx : xs.length = n) (h0 : 0 < n) :
    ∃ g, A = some ⟨g, 0, none⟩ ∧ base ≤ g ∧ g < w.heap.size ∧ HoldsK enc 3 w g 0 xs.toArray := by
  rcases h.2 with ⟨hv, hz⟩ | ⟨g, cap, cur, hv, hgb, hheap, hncap, hcapm, hcsz, htake⟩
  · omega
  · injection hv with e1 e2 e3
    refine ⟨g, e1, hgb, (Array.getElem?_eq_some_iff.1 hheap).1, ?_⟩
    intro t ht
    have ht2 : t < xs.length * 3 := by simpa using ht
    refine ⟨?_, blk_frozen hheap _⟩
    rw [blk_cell hheap, get_flatK _ _ _ _ (by simpa using ht)]
    have e : cur[0 + t]? = (flat xs)[t]? := by
      rw [Nat.zero_add, ← Array.getElem?_toList, ← htake, List.getElem?_take, if_pos (by omega)]
    rw [e, flat_at xs t ht2]
    have hd : t / 3 < xs.length := by omega
    have h2 : xs.toArray[t / 3]! = xs[t / 3]'hd := by simp [hd]
    rw [h2, List.getElem!_eq_getElem?_getD, List.getElem?_eq_getElem (by rw [enc_len]; omega)]
    rfl
theorem own_putRow {w : World} {base g n cap m : Nat} {xs : List E} {d' : Array E} (h : w.ownsRow base 68 3 (.slice (some ⟨g, 0, none⟩) n cap) n (flat xs)) (hx : xs.length = n) (hd : d'.size = n) (h0 : 0 < n) :
    (putRowK enc 3 (Go.Sort.ahead w m) g 0 d').ownsRow base 68 3 (.slice (some ⟨g, 0, none⟩) n cap) n (flat d'.toList) := by
  rcases h.2 with ⟨hv, hz⟩ | ⟨g2, cap2, cur, hv, hgb, hheap, hncap, hcapm, hcsz, htake⟩
  · omega
  · injection hv with e1 e2 e3
    injection e1 with e1
    injection e1 with e1
    subst e1 e3
    refine ⟨by rw [flat_length, Array.length_toList, hd], Or.inr ⟨g, cap, Go.Sort.putCells id 0 (flatK enc 3 d') cur, rfl, hgb, ?_, hncap, hcapm, ?_, ?_⟩⟩
    · unfold putRowK putRow mapBlock
      show (w.heap.modify g _)[g]? = _
      rw [Array.getElem?_modify, if_pos rfl, hheap]
      rfl
    · unfold Go.Sort.putCells; rw [Array.size_mapIdx]; exact hcsz
    · apply List.ext_getElem?
      intro t
      rw [List.getElem?_take]
      by_cases ht : t < n * 3
      · have ht2 : t < d'.toList.length * 3 := by rw [Array.length_toList, hd]; exact ht
        rw [if_pos ht, Array.getElem?_toList]
        unfold Go.Sort.putCells
        have hc : t < cur.size := by rw [hcsz]; have := Nat.mul_le_mul_right 3 hncap; omega
        rw [Array.getElem?_mapIdx, Array.getElem?_eq_getElem hc, Option.map_some, if_pos ⟨Nat.zero_le _, by rw [size_flatK, hd]; omega⟩, flat_at _ t ht2, Nat.sub_zero, id, get_flatK _ _ _ _ (by rw [hd]; exact ht)]
        have hd2 : t / 3 < d'.size := by rw [hd]; omega
        rw [getElem!_pos d' (t / 3) hd2, List.getElem!_eq_getElem?_getD, List.getElem?_eq_getElem (by rw [enc_len]; omega)]
        simp
      · rw [if_neg ht, List.getElem?_eq_none (by rw [flat_length, Array.length_toList, hd]; omega)]
def IsPost (St : Array E → World → Prop) (d : Array E) (e : Ending) (w' : World) : Prop :=
  ∃ b : Bool, e = .returned (.bool b) ∧ (b = true → ∀ j, 0 < j → j < d.size → lt d[j]! d[j - 1]! = false) ∧ St d w'
set_option maxRecDepth 100000 in
theorem isSorted_any {rv : Value} {St : Array E → World → Prop} (H : Srt lt rv St) (d : Array E) (w : World) (hS : St d w) (hsz : d.size < 4611686018427387904) :
    Calls Tryz.prog 65 #[.iface 125 rv] w (IsPost St d) := by
  have mN := H.mN
  have mL := H.mL
  have hl0 := H.len d w hS
  go_enter Tryz.func65, Tryz.ntmps65
  go_wp2_with (go_at_call 186; refine hl0.mono ?_; rintro e w' ⟨rfl, hs'⟩)
  go_loopw [4] (fun vi wr => ∃ i : Int, vi = .int .i64 i ∧ -1 ≤ i ∧ i < d.size ∧ St d wr ∧ Hid (∀ j : Nat, i < (j : Int) → 0 < j → j < d.size → lt d[j]! d[j - 1]! = false)) (fun vi _ => (intOf vi + 1).toNat)
  case atStart => exact ⟨(d.size : Int) - 1, by go_num, by omega, by omega, by assumption, Lib.hid (fun j h1 h2 h3 => by omega)⟩
  case round =>
    obtain ⟨i, rfl, h1, h2, hs, hO⟩ := hrel
    by_cases hlt : 0 < i
    · obtain ⟨k, rfl⟩ : ∃ k : Nat, i = k := ⟨i.toNat, by omega⟩
      have hl := H.less d wr k (k - 1) hs (by omega) (by omega)
      have ej : (((k - 1 : Nat) : Int)) = (k : Int) - 1 := by omega
      rw [ej] at hl
      clear ej
      by_cases hb : lt d[k]! d[k - 1]! = true
      · rw [hb] at hl
        clear hb
        go_wp2_with (go_at_call 187; refine hl.mono ?_; rintro e w' ⟨rfl, hs'⟩)
        go_ret
        exact ⟨false, rfl, (fun h => by cases h), by assumption⟩
      · have hb2 : lt d[k]! d[k - 1]! = false := by simpa using hb
        rw [hb2] at hl
        have HB := Lib.hid hb2
        clear hb hb2
        go_wp2_with (go_at_call 187; refine hl.mono ?_; rintro e w' ⟨rfl, hs'⟩)
        go_roundw
        case rel =>
          refine ⟨(k : Int) - 1, rfl, by omega, by omega, by assumption, Lib.hid (fun j h3 h4 h5 => ?_)⟩
          by_cases e : j = k
          · subst e; exact HB.out
          · exact hO.out j (by omega) h4 h5
        case measure => first | (simp [intOf]; done) | (simp [intOf]; omega)
    · have hn : decide ((0 : Int) < i) = false := decide_eq_false hlt
      go_wp2
      go_ret
      exact ⟨true, rfl, fun _ j h3 h4 => hO.out j (by omega) h3 h4, by assumption⟩
def IsPost2 (W : World) (es : List BE) (e : Ending) (w' : World) : Prop :=
  ∃ b : Bool, e = .returned (.bool b) ∧ (b = true → sortE (es.map bE) = es.map bE) ∧ Below W.heap.size W w'
theorem pairwise_of_adj (d : Array E) (h : ∀ j, 0 < j → j < d.size → lt d[j]! d[j - 1]! = false) : SortedIn lt 0 d.size d := by
  intro p q hp hpq hq
  induction q with
  | zero => omega
  | succ q ih =>
    have h1 := h (q + 1) (by omega) (by omega)
    rw [Nat.add_sub_cancel] at h1
    by_cases e : p = q
    · subst e; exact h1
    · have h2 := ih (by omega) (by omega)
      rw [lt_not] at *; omega
theorem isSorted_own (W : World) (base : Nat) (A : Option Addr) (n cap : Nat) (es : List BE) (hn : es.length = n) (h0 : 0 < n) (hl : n ≤ 1000000) (hnear : ∀ y ∈ es, y.s ≤ 1000000 ∧ y.e ≤ 1000000) (hown : W.ownsRow base 68 3 (.slice A n cap) n (rowE es)) :
    Calls Tryz.prog 65 #[.iface 125 (.slice A n cap)] W (IsPost2 W es) := by
  rw [rowE_flat] at hown
  obtain ⟨g, rfl, hb, hgs, hH⟩ := holds_of_own hown (by rw [List.length_map]; exact hn) h0
  have hsz : (es.map bE).toArray.size = n := by simp [hn]
  have hnr : ∀ i : Nat, Near ((es.map bE).toArray[i]!) := by
    intro i
    by_cases hi : i < es.length
    · have e : (es.map bE).toArray[i]! = bE es[i] := by simp [hi]
      rw [e]
      have := hnear es[i] (List.getElem_mem hi)
      exact ⟨by show -1099511627776 ≤ ((es[i].s : Nat) : Int); omega, by show ((es[i].s : Nat) : Int) ≤ 1099511627776; omega⟩
    · have e : (es.map bE).toArray[i]! = default := by simp [hi]
      rw [e]; exact ⟨by decide, by decide⟩
  have hS : St W g 0 (es.map bE).toArray.size (es.map bE).toArray W := ⟨rfl, hnr, 0, (putRowK_self enc 3 W g 0 _ hH).symm⟩
  have h1 := isSorted_any (srt W g 0 cap _ hH (by rw [hsz]; omega)) _ W hS (by rw [hsz]; omega)
  rw [hsz] at h1
  refine h1.mono ?_
  rintro e w' ⟨b, rfl, h2, h3⟩
  refine ⟨b, rfl, fun hb => ?_, ?_⟩
  · have h4 := pairwise_of_adj _ (h2 hb)
    have h5 := sorted_is (es.map bE).toArray (es.map bE).toArray (StabIn.refl _ _ _) h4
    simpa using h5.symm
  · obtain ⟨m, rfl⟩ := h3.world
    have h6 : putRowK enc 3 (Go.Sort.ahead W m) g 0 (es.map bE).toArray = Go.Sort.ahead W m := putRowK_self enc 3 _ g 0 _ (holdsK_ahead enc 3 _ _ _ _ _ hH)
    rw [h6]
    exact ⟨rfl, rfl, rfl, Nat.le_refl _, fun _ _ => rfl⟩
theorem info_edit : (Tryz.prog.info? 68).map (fun i => (i.zero, i.size, i.bytes)) = some (some (.agg #[.int .i64 0, .int .i64 0, .string ⟨#[]⟩]), 3, 32) := by kernel_rfl
theorem seg_whole {w : World} {B e size n c : Nat} {A : Option Addr} {xs : List Value} (h : w.ownsRow B e size (.slice A n c) n xs) (h0 : 0 < n) (hs : 0 < size) : Seg w size (.slice A n c) n xs := by
  rcases h.2 with ⟨hv, hz⟩ | ⟨g, cap, cur, hv, hgb, hheap, hncap, hcapm, hcsz, htake⟩
  · omega
  · injection hv with e1 e2 e3
    subst e1
    refine Or.inr ⟨_, _, rfl, h.1, fun j u hu => ?_⟩
    obtain ⟨g3, c3, hv3, hc3, _⟩ := own_get h j u hu
    injection hv3 with q1 q2 q3
    injection q1 with q1
    injection q1 with q1
    subst q1
    rw [addAt]; exact hc3
def ClonePost (W : World) (n : Nat) (row : List Value) (e : Ending) (w' : World) : Prop := ∃ A cap, e = .returned (.slice A n cap) ∧ w'.ownsRow W.heap.size 68 3 (.slice A n cap) n row ∧ Below W.heap.size W w'
set_option maxRecDepth 100000 in
theorem clone_any (W : World) (base : Nat) (A : Option Addr) (n cap : Nat) (es : List BE) (hn : es.length = n) (h0 : 0 < n) (hl : n ≤ 1000000) (hown : W.ownsRow base 68 3 (.slice A n cap) n (rowE es)) :
    Calls Tryz.prog 66 #[.slice A n cap] W (ClonePost W n (rowE es)) := by
  obtain ⟨g, rfl⟩ : ∃ g, A = some ⟨g, 0, none⟩ := by
    rcases hown.2 with ⟨hv, hz⟩ | ⟨g, cap, cur, hv, _⟩
    · omega
    · injection hv with e1 e2 e3; exact ⟨g, e1⟩
  have he := fun (w : World) => Lib.run_eql_slice_nil (P := Tryz.prog) w 53 68 (some ⟨g, 0, none⟩) n cap 0 0 Tryz.underlying53
  have hsg : ∀ o, Seg (W.alloc o) 3 (.slice (some ⟨g, 0, none⟩) n cap) n (rowE es) := fun o => seg_whole (own_alloc hown o) h0 (by decide)
  have hone : ∀ u ∈ rowE es, u.oneCell' = true := by rw [rowE_flat]; exact flat_one _
  have hnew : ∀ t, (W.alloc (.cells #[] t)).ownsRow W.heap.size t 3 (.slice (some ⟨W.heap.size, 0, none⟩) 0 0) 0 [] := fun t => World.ownsRow_lit W #[] 0 (Nat.le_refl _) (by decide) rfl
  have HSG := Aside0.mk hsg
  have HONE := Aside0.mk hone
  have HNEW := Aside0.mk hnew
  obtain ⟨iS, hiS, hzS0, hzS1, hzS2⟩ := info_parts info_edit
  clear hsg hone hnew hown
  go_enter Tryz.func66, Tryz.ntmps66
  go_wp2_with (at_builtin; go_loud (refine wpList_append_seg (by rfl) (.tmp 5) (.tmp 6) 53 (by rfl) W.heap.size 68 iS _ 3 32 Tryz.underlying53 hiS hzS0 hzS1 hzS2 rfl (by omega) (.slice (some ⟨W.heap.size, 0, none⟩) 0 0) 0 [] (by rfl) (HNEW.out _) n (rowE es) (HSG.out _) HONE.out (by unfold maxLen; omega) (by omega) (by simp) ?_; intro A8 cap8 w8 hown8 hgrow8 hat8; have HW8 := Aside0.mk hown8; have HG8 := Aside0.mk hgrow8; clear hown8 hgrow8 hat8))
  go_ret
  refine ⟨A8, cap8, rfl, by have := HW8.out; rwa [Nat.zero_add] at this, ?_⟩
  exact (below_alloc (Below.refl _ _) _).trans ((Fr.of_grown HG8.out).below (by simp) (fun k hk => by simp [Value.ownBlock] at hk; omega))
end Go.Proofs.YtonajgipkpnpoaaGreatDoor.Un
namespace Go.Proofs.YtonajgipkpnpoaaGreatDoor.Un
open Go.RowKit Go.Sort Go.Sst Go.Proofs.YtonajgipkpnpoaaGreatDoorW.PrintWords Go.Proofs.YtonajgipkpnpoaaGreatDoorW.PrintLast Go.Proofs.YtonajgipkpnpoaaGreatDoorW.PrintMore Go.Uni
open Go.Proofs.YtonajgipkpnpoaaGreatDoor.SortM Go.Proofs.YtonajgipkpnpoaaGreatDoor.SortS Go.Proofs.YtonajgipkpnpoaaGreatDoor.SortU
set_option linter.unusedVariables false
set_option linter.unusedSimpArgs false
theorem below_putRow' {w : World} {base g n : Nat} {d : Array SortM.E} (h : base ≤ g) : Go.RowKit.Below base w (putRowK SortM.enc 3 (Go.Sort.ahead w n) g 0 d) := by
  refine ⟨rfl, rfl, rfl, ?_, fun k hk => ?_⟩
  · show w.heap.size ≤ (w.heap.modify g _).size
    simp
  · show (w.heap.modify g _)[k]? = _
    rw [Array.getElem?_modify, if_neg (by omega)]
def SortPost (W : World) (B n : Nat) (v : Value) (row : List Value) (e : Ending) (w' : World) : Prop := e = .returned (.tuple #[]) ∧ w'.ownsRow B 68 3 v n row ∧ Below B W w'
theorem sort_own (W : World) (base : Nat) (A : Option Addr) (n cap : Nat) (es ys : List BE) (hn : es.length = n) (h0 : 0 < n) (hl : n ≤ 1000000) (hnear : ∀ y ∈ es, y.s ≤ 1000000 ∧ y.e ≤ 1000000) (hsort : sortE (es.map bE) = ys.map bE) (hown : W.ownsRow base 68 3 (.slice A n cap) n (rowE es)) :
    Calls Tryz.prog 67 #[.slice A n cap] W (SortPost W base n (.slice A n cap) (rowE ys)) := by
  rw [rowE_flat] at hown
  obtain ⟨g, rfl, hb, hgs, hH⟩ := holds_of_own hown (by rw [List.length_map]; exact hn) h0
  have hsz : (es.map bE).toArray.size = n := by simp [hn]
  have hnr : ∀ i : Nat, Near ((es.map bE).toArray[i]!) := by
    intro i
    by_cases hi : i < es.length
    · have e : (es.map bE).toArray[i]! = bE es[i] := by simp [hi]
      rw [e]
      have := hnear es[i] (List.getElem_mem hi)
      exact ⟨by show -1099511627776 ≤ ((es[i].s : Nat) : Int); omega, by show ((es[i].s : Nat) : Int) ≤ 1099511627776; omega⟩
    · have e : (es.map bE).toArray[i]! = default := by simp [hi]
      rw [e]; exact ⟨by decide, by decide⟩
  have h1 := sortEdits_any W g 0 cap _ hH hnr (by rw [hsz]; omega)
  rw [hsz] at h1
  refine h1.mono ?_
  rintro e w' ⟨rfl, m, d', hd', rfl⟩
  have hd2 : d'.toList = ys.map bE := hd'.trans hsort
  have hds : d'.size = n := by
    have h2 := congrArg List.length hd'
    have h3 : ∀ l : List E, (sortE l).length = l.length := fun l => by
      have h4 := (foldl_sorted l [] List.Pairwise.nil)
      have h5 : ∀ (l acc : List E), (l.foldl insE acc).length = acc.length + l.length := by
        intro l
        induction l with
        | nil => intro acc; rfl
        | cons x t ih =>
          intro acc
          rw [List.foldl_cons, ih]
          have := insAt_le acc x acc.length
          unfold insE
          rw [List.length_append, List.length_cons, List.length_take, List.length_drop, List.length_cons]; omega
      have := h5 l []
      simpa [sortE] using this
    rw [h3, Array.length_toList, List.length_map, hn] at h2
    · exact h2
  have h6 := own_putRow (m := m) (d' := d') hown (by rw [List.length_map]; exact hn) hds h0
  rw [hd2, ← rowE_flat] at h6
  exact ⟨rfl, h6, below_putRow' hb⟩
def ValPost (W : World) (ys : List BE) (e : Ending) (w' : World) : Prop := ∃ v sz, e = .returned (.tuple #[v, .int .i64 sz, .nilIface]) ∧ w'.ownsRow 0 68 3 v ys.length (rowE ys) ∧ Below W.heap.size W w'
theorem inO_drop {c : Nat} {ys : List BE} {i p : Nat} {y : BE} (h : InO c (ys.drop i) p) (hy : ys[i]? = some y) : p ≤ y.s ∧ y.s ≤ y.e ∧ y.e ≤ c ∧ InO c (ys.drop (i + 1)) y.e := by
  have hi : i < ys.length := (List.getElem?_eq_some_iff.1 hy).1
  have he : ys[i] = y := (List.getElem?_eq_some_iff.1 hy).2
  rw [List.drop_eq_getElem_cons hi, he] at h
  exact h
set_option maxRecDepth 100000 in
set_option maxHeartbeats 4000000 in
theorem validate_calls (W : World) (c : ByteArray) (A : Option Addr) (n cap : Nat) (es ys : List BE) (hc : c.size ≤ 1000000) (hn : es.length = n) (hn2 : ys.length = n) (h0 : 0 < n) (hl : n ≤ 1000000) (htot : tot ys ≤ 1000000)
    (hnear : ∀ y ∈ es, y.s ≤ 1000000 ∧ y.e ≤ 1000000) (hown : W.ownsRow 0 68 3 (.slice A n cap) n (rowE es)) (hsort : sortE (es.map bE) = ys.map bE) (hio : InO c.data.toList.length ys 0) :
    Calls Tryz.prog 55 #[.string c, .slice A n cap] W (ValPost W ys) := by
  rw [data_length] at hio
  have his := isSorted_own W 0 A n cap es hn h0 hl hnear hown
  have hcl := fun W1 (hb : Below W.heap.size W W1) => clone_any W1 0 A n cap es hn h0 hl (pw_own_below hown hb)
  have hso := fun W1 A1 c1 B1 (ho : W1.ownsRow B1 68 3 (.slice A1 n c1) n (rowE es)) => sort_own W1 B1 A1 n c1 es ys hn h0 hl hnear hsort ho
  have HIS := Aside0.mk his
  have HCL := Aside0.mk hcl
  have HSO := Aside0.mk hso
  have HOWN := Aside0.mk hown
  have hes : ∀ (b : Bool), (b = true → sortE (es.map bE) = es.map bE) → b = true → rowE es = rowE ys := fun b h1 h2 => by
    rw [rowE_flat, rowE_flat, ← h1 h2, hsort]
  have HES := Aside0.mk hes
  have HIO := Aside0.mk hio
  have HN2 := Lib.hid hn2
  clear his hcl hso hes hsort hio hn hn2 hown
  go_enter Tryz.func55, Tryz.ntmps55
  go_upto_if 14 with (go_at_call 65; (with_reducible refine HIS.out.mono ?_); rintro e w1 ⟨b, rfl, hb1, hb2⟩; have HB1 := Aside0.mk hb1; have HB2 := Aside0.mk hb2; clear hb1 hb2)
  go_cut [1] (fun v1 wx => ∃ A1 c1, v1 = .slice A1 n c1 ∧ Aside0 (wx.ownsRow 0 68 3 (.slice A1 n c1) n (rowE ys)) ∧ Aside0 (Below W.heap.size W wx))
  case first =>
    cases b with
    | true =>
      go_wp2_with fail
      go_meet
      case rel => exact ⟨A, cap, rfl, ⟨by rw [← HES.out true (fun _ => HB1.out trivial) rfl]; exact pw_own_below HOWN.out HB2.out⟩, ⟨HB2.out⟩⟩
    | false =>
      go_wp2_with (first
        | (go_at_call 66; (with_reducible refine (HCL.out _ HB2.out).mono ?_); rintro e w2 ⟨A2, c2, rfl, ho2, hb2⟩; have HO2 := Aside0.mk ho2; have HB3 := Aside0.mk hb2; clear ho2 hb2)
        | (go_at_call 67; (with_reducible refine (HSO.out _ _ _ _ HO2.out).mono ?_); rintro e w3 ⟨rfl, ho3, hb3⟩; have HO3 := Aside0.mk ho3; have HB4 := Aside0.mk hb3; clear ho3 hb3))
      go_meet
      case rel => exact ⟨A2, c2, rfl, ⟨own_lower HO3.out (Nat.zero_le _)⟩, ⟨(HB2.out.trans (HB3.out.mono HB2.out.size)).trans (HB4.out.mono HB2.out.size)⟩⟩
  case rest =>
    obtain ⟨A1, c1, rfl, HO, HBL⟩ := hcut
    go_wp2_with fail
    go_loopg [7, 8, 23] n (fun gk v7 v8 v23 wr => ∃ (i last : Nat) (sz : Int), i + gk = n ∧ v7 = .int .i64 sz ∧ v8 = .int .i64 (last : Int) ∧ v23 = .int .i64 (i : Int) ∧ last ≤ 1000000 ∧ -((i : Int) + 1) * 4000000 ≤ sz ∧ sz ≤ ((i : Int) + 1) * 4000000 ∧ Aside0 (InO c.size (ys.drop i) last) ∧ Aside0 (Below wc.heap.size wc wr))
    case atStart => exact ⟨0, 0, c.size, by omega, rfl, rfl, rfl, by omega, by omega, by omega, ⟨HIO.out⟩, ⟨Below.refl _ _⟩⟩
    case round =>
      obtain ⟨i, last, sz, hik, rfl, rfl, rfl, hlast, hs1, hs2, HI, HB⟩ := hrel
      by_cases hlt : i < n
      · obtain ⟨y, hy⟩ : ∃ y, ys[i]? = some y := ⟨_, List.getElem?_eq_getElem (by rw [HN2.out]; exact hlt)⟩
        obtain ⟨q1, q2, q3, q4⟩ := inO_drop HI.out hy
        have q5 : y.new.length ≤ 1000000 := Nat.le_trans (mem_tot ys y (List.mem_of_getElem? hy)) htot
        have hg := rowE_get ys i y hy
        have HOr := pw_own_below HO.out HB.out
        obtain ⟨ge, cg, hv, c0, hcap⟩ := own_get HOr _ _ hg.1
        injection hv with hv1 hv2 hv3
        subst hv1 hv3
        obtain ⟨_, _, hv, cc1, _⟩ := own_get HOr _ _ hg.2.1
        injection hv with hv1 hv2 hv3
        injection hv1 with hv1
        injection hv1 with hv1
        subst hv1
        clear hv2 hv3
        obtain ⟨_, _, hv, cc2, _⟩ := own_get HOr _ _ hg.2.2
        injection hv with hv1 hv2 hv3
        injection hv1 with hv1
        injection hv1 with hv1
        subst hv1
        clear hv2 hv3 hg HOr
        have HQ4 := Aside0.mk q4
        have b1 : (y.s : Int) ≤ (y.e : Int) := by omega
        have b2 : (y.e : Int) ≤ (c.size : Int) := by omega
        have b3 : decide (y.s < last) = false := decide_eq_false (by omega)
        have b4 : decide ((y.s : Int) < (last : Int)) = false := decide_eq_false (by omega)
        have hm : (mkS y.new).size ≤ 1000000 := by rw [mkS_size]; exact q5
        obtain ⟨N, hN⟩ : ∃ N, N = mkS y.new := ⟨_, rfl⟩
        rw [← hN] at cc2 hm
        have g1 := HB.out
        have HY := Lib.hid hy
        clear hN q4 hy g1
        go_wp2_with fail
        go_roundg (n - (i + 1))
        case rel => exact ⟨i + 1, y.e, _, by omega, rfl, rfl, by go_num, by omega, by omega, by omega, ⟨HQ4.out⟩, ⟨below_alloc HB.out _⟩⟩
        case measure => omega
      · have b1 : decide (i < n) = false := decide_eq_false hlt
        go_wp2_with fail
        go_ret3
        exact ⟨_, sz, rfl, by rw [HN2.out]; exact pw_own_below HO.out HB.out, HBL.out.trans (HB.out.mono HBL.out.size)⟩
end Go.Proofs.YtonajgipkpnpoaaGreatDoor.Un
namespace Go.Proofs.YtonajgipkpnpoaaGreatDoor.Un
open Go.RowKit Go.Proofs.YtonajgipkpnpoaaGreatDoorW.PrintWords Go.Proofs.YtonajgipkpnpoaaGreatDoorW.PrintLast Go.Proofs.YtonajgipkpnpoaaGreatDoorW.PrintMore Go.Uni
set_option linter.unusedVariables false
set_option linter.unusedSimpArgs false
theorem bld_size : (Tryz.prog.info? 97).map (·.size) = some 2 := by kernel_rfl
theorem bld_lies : liesAt Tryz.prog Tryz.prog.depth 97 (2 / Tryz.prog.cellsOf 97) 0 97 1 = true := by kernel_rfl
theorem bld_byte : (Tryz.prog.info? 5).map (fun i => (i.zero, i.size, i.bytes)) = some (some (.int .u8 0), 1, 1) := by kernel_rfl
set_option maxHeartbeats 1000000 in
set_option maxRecDepth 100000 in
theorem copyCheck_used (b : Nat) (w : World) (h0 : w.cell? ⟨b, 0, none⟩ = some (.pointer (some ⟨b, 0, none⟩))) :
    Calls Tryz.prog 58 #[.pointer (some ⟨b, 0, none⟩)] w fun e w' => e = .returned (.tuple #[]) ∧ w' = w := by
  obtain ⟨j, hj, _⟩ := Option.map_eq_some_iff.1 bld_size
  go_enter Tryz.func58, Tryz.ntmps58
  go_wp2
  rw [Lib.run_neq_ptr_same w _ Tryz.underlying95 hj]
  go_wp2
  go_end0
  exact ⟨rfl, rfl⟩
set_option maxHeartbeats 1000000 in
set_option maxRecDepth 100000 in
theorem copyCheck_fresh (b : Nat) (w : World) (h0 : w.cell? ⟨b, 0, none⟩ = some (.pointer none)) (hsh : w.shape? b = some (97, 2)) (hfz : w.frozen? ⟨b, 0, none⟩ = false) :
    Calls Tryz.prog 58 #[.pointer (some ⟨b, 0, none⟩)] w fun e w' => e = .returned (.tuple #[]) ∧ w' = w.setCell ⟨b, 0, none⟩ (.pointer (some ⟨b, 0, none⟩)) := by
  obtain ⟨j, hj, hjs⟩ := Option.map_eq_some_iff.1 bld_size
  go_enter Tryz.func58, Tryz.ntmps58
  go_wp2
  rw [Lib.run_to_unsafe w ⟨b, 0, none⟩ Tryz.underlying95 Tryz.underlying130 hj (by rw [hjs]; decide) hsh (Nat.zero_lt_succ 1)]
  simp only [Result.andThen]
  rw [Oper.upon_value]
  go_wp2
  rw [run_callFunc_extern Tryz.func72 (by kernel_rfl) (by kernel_rfl) (by kernel_rfl) (e := Extern.AbiNoEscape.same) (by kernel_rfl)]
  rw [Lib.run_noEscape]
  simp only [Result.andThen]
  rw [Oper.upon_value]
  go_wp2
  rw [Lib.run_from_unsafe w ⟨b, 0, none⟩ Tryz.underlying130 Tryz.underlying95 hj hsh bld_lies]
  simp only [Result.andThen]
  rw [Oper.upon_value]
  go_wp2
  go_end0
  exact ⟨rfl, rfl⟩
theorem copyCheck_k (B b : Nat) (bs : List Value) (w : World) (h : Lib.IsBuilderF 97 5 B b bs w) :
    Calls Tryz.prog 58 #[.pointer (some ⟨b, 0, none⟩)] w fun e w' => e = .returned (.tuple #[]) ∧ (Lib.BuilderAtF 97 5 B b (.pointer (some ⟨b, 0, none⟩)) bs w' ∧ Below B w w' ∧ Lib.OthersKept 5 (some b) w w') := by
  rcases h with h | h
  · refine (copyCheck_fresh b w h.cell0 h.shape h.frozen0).mono ?_
    rintro e w' ⟨rfl, rfl⟩
    exact ⟨rfl, h.used _, (Below.refl B w).setCell (p := ⟨b, 0, none⟩) h.1 _, (Lib.OthersKept.refl _ _ w).setCell ⟨b, 0, none⟩ rfl _⟩
  · refine (copyCheck_used b w h.cell0).mono ?_
    rintro e w' ⟨rfl, rfl⟩
    exact ⟨rfl, h, Below.refl B _, Lib.OthersKept.refl _ _ _⟩
def WsPost (B b : Nat) (bs : List Value) (s : ByteArray) (w : World) (e : Ending) (w' : World) : Prop :=
  e = .returned (.tuple #[.int .i64 s.size, .nilIface]) ∧ Lib.BuilderAtF 97 5 B b (.pointer (some ⟨b, 0, none⟩)) (bs ++ Lib.strCells s) w' ∧ Below B w w' ∧ Lib.OthersKept 5 (some b) w w'
set_option maxHeartbeats 2000000 in
set_option maxRecDepth 100000 in
theorem writeString_k (B b : Nat) (bs : List Value) (s : ByteArray) (w : World) (h : Lib.IsBuilderF 97 5 B b bs w) (hlen : bs.length + s.size ≤ 140737488355328) (hBw : B ≤ w.heap.size) :
    Calls Tryz.prog 45 #[.pointer (some ⟨b, 0, none⟩), .string s] w fun e w' => WsPost B b bs s w e w' := by
  obtain ⟨i0, hi, hz0, hz1, hz2⟩ := info_parts bld_byte
  go_enter Tryz.func45, Tryz.ntmps45
  go_wp2_with (go_at_call 58; refine (copyCheck_k B b bs _ h).mono ?_)
  rintro e w1 ⟨rfl, h1, hb1, hk1⟩
  obtain ⟨hB, v, hbk, hown, hne⟩ := h1
  have c0 : w1.cell? ⟨b, 0, none⟩ = some (.pointer (some ⟨b, 0, none⟩)) := by rw [Lib.cell_of_heap hbk]; rfl
  have c1 : w1.cell? ⟨b, 1, none⟩ = some v := by rw [Lib.cell_of_heap hbk]; rfl
  go_wp2_with (at_builtin; refine Lib.wpList_append_own_stringF _ rfl _ _ 78 9 rfl B 5 i0 Tryz.underlying78 Tryz.underlying9 hi hz0 hz1 hz2 _ _ _ rfl hown s rfl ?c3 ?c4 ?c5 ?_)
  case c3 => unfold maxLen; omega
  case c4 => omega
  case c5 => have := hb1.size; omega
  intro v' w2 hown' hgrow _
  have hlt : b < w1.heap.size := by
    rcases Nat.lt_or_ge b w1.heap.size with h' | h'
    · exact h'
    · simp [Array.getElem?_eq_none h'] at hbk
  have hb2 : w2.heap[b]? = some (.cells #[.pointer (some ⟨b, 0, none⟩), v] 97 (0, 0)) := by
    rw [hgrow.block b hlt (fun e => hne e.symm)]
    exact hbk
  have d0 : w2.cell? ⟨b, 0, none⟩ = some (.pointer (some ⟨b, 0, none⟩)) := by rw [Lib.cell_of_heap hb2]; rfl
  have d1 : w2.cell? ⟨b, 1, none⟩ = some v := by rw [Lib.cell_of_heap hb2]; rfl
  have f1 : w2.frozen? ⟨b, 1, none⟩ = false := Lib.frozen_of_heap hb2 1
  obtain ⟨ao, n', cap, rfl⟩ : ∃ ao n' cap, v' = .slice ao n' cap := by
    rcases hown'.2 with ⟨hv, _⟩ | ⟨g, cap, cur, fz, hv, _⟩
    · exact ⟨_, _, _, hv⟩
    · exact ⟨_, _, _, hv⟩
  go_wp2
  go_ret2
  refine ⟨rfl, ?_, ?_, (hk1.grown hgrow (Lib.ownsRowF_kind hown)).setCell ⟨b, 1, none⟩ rfl _⟩
  · exact Lib.BuilderAtF.put (T := 97) (e := 5) hB hb2 (bs' := bs ++ Lib.strCells s) (by simpa [Lib.strCells_length] using hown') (by decide)
  · exact (hb1.grown hgrow (by have := hb1.size; omega) (fun k hk => (hown.lt k hk).1)).setCell (p := ⟨b, 1, none⟩) hB _
end Go.Proofs.YtonajgipkpnpoaaGreatDoor.Un
