/- lineEdits: edits by whole lines. -/
import Derived.Test.YtonajgipkpnpoaaGreatDoorC28
import Derived.WalkMore
import Derived.ScopeJumps
namespace Go.Proofs.YtonajgipkpnpoaaGreatDoor.Un
open Go.RowKit Go.Sort Go.Sst Go.Proofs.YtonajgipkpnpoaaGreatDoorW.PrintWords Go.Proofs.YtonajgipkpnpoaaGreatDoorW.PrintLast Go.Proofs.YtonajgipkpnpoaaGreatDoorW.PrintMore Go.Uni
open Go.Proofs.YtonajgipkpnpoaaGreatDoor.SortM Go.Proofs.YtonajgipkpnpoaaGreatDoor.SortS Go.Proofs.YtonajgipkpnpoaaGreatDoor.SortU
set_option linter.unusedVariables false
set_option linter.unusedSimpArgs false
def Behind (P : Program) (c : Code) (l : Nat) (Q : Exit → Act → World → Prop) (a : Act) (w : World) : Prop := ∃ rest, findLabel c l = some rest ∧ rest.wp P (Exit.noGoto Q) a w
theorem wp_scope_to {P : Program} {c : Code} {Q : Exit → Act → World → Prop} {a : Act} {w : World} (l : Nat) {rest : Code} (hf : findLabel c l = some rest) (h : c.wp P (Exit.jump l (Behind P c l Q) Q) a w) : (Code.scope c).wp P Q a w := by
  refine wp_scope_jumps l (Behind P c l Q) (fun _ _ => 0) hf h ?_
  rintro a w ⟨rest', h1, h2⟩
  rw [hf] at h1
  obtain rfl := Option.some.inj h1
  intro b k cs
  obtain ⟨e, a1, w1, hq, harr⟩ := h2 b k cs
  refine ⟨e, a1, w1, ?_, harr⟩
  cases e with
  | goto l' => exact hq.elim
  | _ => exact hq
instance decNoNl (s : Bs) : Decidable (NoNl s) := by unfold NoNl; infer_instance
def IxPost (s : ByteArray) (w : World) (e : Ending) (w' : World) : Prop := ∃ v : Int, e = .returned (.int .i64 v) ∧ decide (0 ≤ v) = decide (¬ NoNl s.data.toList) ∧ w = w'
set_option maxRecDepth 100000 in
theorem zzIndex_nl (s : ByteArray) (w : World) (hs : s.size ≤ 4611686018427387904) :
    Calls Tryz.prog 69 #[.string s, .string ⟨#[10]⟩] w (IxPost s w) := by
  have hlen : s.data.toList.length = s.size := data_length s
  go_enter Tryz.func69, Tryz.ntmps69
  go_wp2_with fail
  go_loop [5] (fun i => ∃ k : Nat, k ≤ s.size ∧ i = .int .i64 k ∧ Hid (NoNl (s.data.toList.take k))) (fun i => s.size - (intOf i).toNat)
  case atStart => exact ⟨0, Nat.zero_le _, rfl, Lib.hid (by rw [List.take_zero]; intro c h; cases h)⟩
  case round =>
    obtain ⟨k, hk, rfl, HN⟩ := hrel
    by_cases hlt : k < s.size
    · have hl2 : k < s.data.toList.length := by omega
      have hone := one_byte s k hl2
      have hts := List.take_succ_eq_append_getElem hl2
      by_cases hc : s.data.toList[k] = 10
      · have hno : ¬ NoNl s.data.toList := fun h => h 10 (by rw [← hc]; exact List.getElem_mem hl2) rfl
        rw [hc] at hone
        have hb : ((s.extract k (k + 1)).toList == [10]) = true := by rw [toList_data, hone]; rfl
        have HNO := Lib.hid (decide_eq_true hno)
        clear hc hone hts hno
        go_wp2_with fail
        go_ret
        exact ⟨(k : Int), rfl, by rw [HNO.out]; exact decide_eq_true (by omega), rfl⟩
      · have hb : ((s.extract k (k + 1)).toList == [10]) = false := by rw [toList_data, hone]; simpa using hc
        have HN2 : Hid (NoNl (s.data.toList.take (k + 1))) := Lib.hid (by
          rw [hts, noNl_append]
          exact ⟨HN.out, fun d hd => by rw [List.mem_singleton.1 hd]; exact hc⟩)
        clear hc hone hts
        go_wp2_with fail
        go_round
        case rel => exact ⟨k + 1, by omega, by go_num, HN2⟩
        case measure => simp [intOf]; omega
    · have h2 : ¬ ((k : Int) + 1 ≤ (s.size : Int)) := by omega
      have hno : NoNl s.data.toList := by
        have := HN.out
        rwa [List.take_of_length_le (by omega)] at this
      have HNO := Lib.hid (decide_eq_false (not_not_intro hno))
      clear hno
      go_wp2_with fail
      go_ret
      exact ⟨-1, rfl, by rw [HNO.out]; rfl, rfl⟩
theorem contains_nl (s : ByteArray) (w : World) (hs : s.size ≤ 4611686018427387904) (b : Bool) (hb : b = decide (¬ NoNl s.data.toList)) :
    Calls Tryz.prog 56 #[.string s, .string ⟨#[10]⟩] w fun e w' => e = .returned (.bool b) ∧ w = w' := by
  have hi := zzIndex_nl s w hs
  have HB := Lib.hid hb
  clear hb
  go_enter Tryz.func56, Tryz.ntmps56
  go_wp2_with (go_at_call 69; (with_reducible refine hi.mono ?_); rintro e w1 ⟨v, rfl, hv, rfl⟩; have HV := Lib.hid hv; clear hv)
  go_ret
  refine ⟨?_, rfl⟩
  rw [HB.out, ← HV.out]
  rfl
def fastB (c : Bs) (y : BE) : Bool := decide (y.s < c.length ∧ LS c y.s ∧ LS c y.e ∧ Whole y.new)
theorem place_facts (c : ByteArray) {p : Nat} (hp : p ≤ c.size) : (p = 0 ∧ LS c.data.toList p) ∨ (0 < p ∧ LS c.data.toList p ∧ ∀ h : p - 1 < c.size, (((c[p - 1]'h).toNat : Int) != 10) = false) ∨ (0 < p ∧ ¬ LS c.data.toList p ∧ ∀ h : p - 1 < c.size, (((c[p - 1]'h).toNat : Int) != 10) = true) := by
  rcases Nat.eq_zero_or_pos p with h0 | h0
  · subst h0; exact Or.inl ⟨rfl, ls_zero _⟩
  · by_cases hl : LS c.data.toList p
    · exact Or.inr (Or.inl ⟨h0, hl, fun h => by rw [prev_nl c h0 hp h]; exact decide_eq_false (not_not_intro hl)⟩)
    · exact Or.inr (Or.inr ⟨h0, hl, fun h => by rw [prev_nl c h0 hp h]; exact decide_eq_true hl⟩)
theorem new_facts {N : ByteArray} {n1 : Bs} (hN : N = mkS n1) : (N.toList.isEmpty = true ∧ Whole n1) ∨ (N.toList.isEmpty = false ∧ 0 < N.size ∧ Whole n1 ∧ ∀ h : N.size - 1 < N.size, (((N[N.size - 1]'h).toNat : Int) != 10) = false) ∨ (N.toList.isEmpty = false ∧ 0 < N.size ∧ ¬ Whole n1 ∧ ∀ h : N.size - 1 < N.size, (((N[N.size - 1]'h).toNat : Int) != 10) = true) := by
  by_cases hn : n1 = []
  · left; exact ⟨by rw [hN, toList_data, mkS_toList, hn]; rfl, Or.inl hn⟩
  · right
    have hie : N.toList.isEmpty = false := by
      rw [hN, toList_data, mkS_toList]
      cases n1 with
      | nil => exact absurd rfl hn
      | cons a b => rfl
    have hpos : 0 < N.size := by rw [hN, mkS_size]; exact List.length_pos_iff.2 hn
    have hlast : ∀ h : N.size - 1 < N.size, (((N[N.size - 1]'h).toNat : Int) != 10) = decide (¬ Whole n1) := fun h => by
      rw [last_nl N hpos h, show N.data.toList.take N.size = n1 by rw [List.take_of_length_le (by rw [data_length]; exact Nat.le_refl _), hN, mkS_toList]]
    by_cases hw : Whole n1
    · exact Or.inl ⟨hie, hpos, hw, fun h => by rw [hlast h]; exact decide_eq_false (not_not_intro hw)⟩
    · exact Or.inr ⟨hie, hpos, hw, fun h => by rw [hlast h]; exact decide_eq_true hw⟩
theorem szEl (w : World) : Sem.run Tryz.prog (sizeOf (Tryz.prog.elem 53)) w = .ok 3 w := by kernel_rfl
theorem drop_one (ge n c1 : Nat) (hn : 1 ≤ n) (h : n ≤ c1) : ∃ o1 cc : Nat, (0 < n - 1 → o1 = 3) ∧ ∀ w, (Instr.slice 53 (.slice (some ⟨ge, 0, none⟩) n c1) (some (.int .i64 1)) none none).run Tryz.prog w = .ok (.slice (some ⟨ge, o1, none⟩) (n - 1) cc) w := by
  by_cases hc : c1 = 1
  · refine ⟨0, c1 - 1, fun h => by omega, fun w => ?_⟩
    rw [run_slice_l w 53 (some ⟨ge, 0, none⟩) n c1 (by kernel_rfl) .i64 1 (by decide) (by omega)]
    rw [szEl]
    simp [Result.andThen, sliced, hc]
  · refine ⟨3, c1 - 1, fun h => rfl, fun w => ?_⟩
    rw [run_slice_l w 53 (some ⟨ge, 0, none⟩) n c1 (by kernel_rfl) .i64 1 (by decide) (by omega)]
    rw [szEl]
    simp [Result.andThen, sliced, hc, Addr.add]
structure Ex (w0 w : World) (P : Nat) (x : BE) (v : Value) (zs : List BE) : Prop where
  ge : w0.heap.size ≤ P
  blk : w.heap[P]? = some (.cells #[.int .i64 (x.s : Int), .int .i64 (x.e : Int), .string (mkS x.new)] 68 (0, 0))
  row : w.ownsRow w0.heap.size 68 3 v zs.length (rowE zs)
  ne : v.ownBlock ≠ some P
  bl : Below w0.heap.size w0 w
theorem Ex.join {w0 w : World} {P : Nat} {x : BE} {v : Value} {zs : List BE} (h : Ex w0 w P x v zs) (o : Obj) (e2 : Nat) (n2 : Bs) : Ex w0 (((w.setCell ⟨P, 2, none⟩ (.string (mkS n2))).setCell ⟨P, 1, none⟩ (.int .i64 (e2 : Int))).alloc o) P ⟨x.s, e2, n2⟩ v zs := by
  have hf := Fr.then_ (Fr.then_ (Fr.set_ w ⟨P, 2, none⟩ (.string (mkS n2))) (Fr.set_ _ ⟨P, 1, none⟩ (.int .i64 (e2 : Int))) (fun k hk => Or.inl hk)) (Fr.alloc_ _ o (fun k => k = P)) (fun k hk => Or.inl hk)
  have hb := blk_set (blk_set h.blk 2 (.string (mkS n2))) 1 (.int .i64 (e2 : Int))
  refine ⟨h.ge, ?_, own_fr h.row hf (fun b hb hs => h.ne (by rw [hb, hs])), h.ne, h.bl.trans (hf.below h.bl.size (fun k hk => by rw [hk]; exact h.ge))⟩
  exact (Below.heap_alloc _ o P (Array.getElem?_eq_some_iff.1 hb).1).trans hb
theorem Ex.below {w0 w w' : World} {P : Nat} {x : BE} {v : Value} {zs : List BE} (h : Ex w0 w P x v zs) (hb : Below w.heap.size w w') : Ex w0 w' P x v zs :=
  ⟨h.ge, (hb.block P (Array.getElem?_eq_some_iff.1 h.blk).1).trans h.blk, pw_own_below h.row hb, h.ne, h.bl.trans (hb.mono h.bl.size)⟩
theorem Ex.push {w0 w w' : World} {P : Nat} {x : BE} {v v' : Value} {zs : List BE} {z : BE} (h : Ex w0 w P x v zs) (o : Obj) (hg : (w.alloc o).grownBy w' v.ownBlock) (hr : w'.ownsRow w0.heap.size 68 3 v' (zs.length + 1) (rowE (zs ++ [z]))) (hat : v'.ownBlock = v.ownBlock ∨ v'.ownBlock = some (w.heap.size + 1)) : Ex w0 w' P x v' (zs ++ [z]) := by
  have hP : P < w.heap.size := (Array.getElem?_eq_some_iff.1 h.blk).1
  have hge : ∀ k, some k = v.ownBlock → w0.heap.size ≤ k := by
    intro k hk
    rcases h.row.2 with ⟨rfl, _⟩ | ⟨b, cap, cur, rfl, hb, _⟩
    · simp [Value.ownBlock] at hk
    · simp only [Value.ownBlock, Option.some.injEq] at hk; omega
  refine ⟨h.ge, ?_, by rw [List.length_append]; exact hr, ?_, ?_⟩
  · exact (hg.block P (by simp; omega) (fun e => h.ne e.symm)).trans ((Below.heap_alloc w o P hP).trans h.blk)
  · rcases hat with hat | hat
    · rw [hat]; exact h.ne
    · rw [hat]; intro he; injection he with he; omega
  · exact (below_alloc h.bl o).trans ((Fr.of_grown hg).below (by have := h.bl.size; simp; omega) hge)
theorem Ex.take {w0 w : World} {P : Nat} {x : BE} {v : Value} {zs : List BE} (h : Ex w0 w P x v zs) (y : BE) : Ex w0 (((w.setCell ⟨P, 0, none⟩ (.int .i64 (y.s : Int))).setCell ⟨P, 1, none⟩ (.int .i64 (y.e : Int))).setCell ⟨P, 2, none⟩ (.string (mkS y.new))) P y v zs := by
  have hf := Fr.then_ (Fr.then_ (Fr.set_ w ⟨P, 0, none⟩ (.int .i64 (y.s : Int))) (Fr.set_ _ ⟨P, 1, none⟩ (.int .i64 (y.e : Int))) (fun k hk => Or.inl hk)) (Fr.set_ _ ⟨P, 2, none⟩ (.string (mkS y.new))) (fun k hk => Or.inl hk)
  refine ⟨h.ge, ?_, own_fr h.row hf (fun b hb hs => h.ne (by rw [hb, hs])), h.ne, h.bl.trans (hf.below h.bl.size (fun k hk => by rw [hk]; exact h.ge))⟩
  exact blk_set (blk_set (blk_set h.blk 0 (.int .i64 (y.s : Int))) 1 (.int .i64 (y.e : Int))) 2 (.string (mkS y.new))
theorem hat_of {v : Value} {gg n c : Nat} {we : World} {o : Obj} (h : v.ownBlock = some gg ∨ gg = (we.alloc o).heap.size) : (Value.slice (some ⟨gg, 0, none⟩) n c).ownBlock = v.ownBlock ∨ (Value.slice (some ⟨gg, 0, none⟩) n c).ownBlock = some (we.heap.size + 1) := by
  rcases h with h | h
  · exact Or.inl h.symm
  · right; rw [h]; simp [Value.ownBlock]
theorem inO_at' {c : Nat} : ∀ (ys : List BE) (p i : Nat), InO c ys p → ∃ p0, InO c (ys.drop i) p0
  | ys, p, 0, h => ⟨p, h⟩
  | [], p, i + 1, h => ⟨p, h⟩
  | e :: t, p, i + 1, ⟨_, _, _, h⟩ => inO_at' t e.e i h
set_option maxRecDepth 100000 in
set_option maxHeartbeats 4000000 in
theorem lineEdits_calls (W : World) (c : ByteArray) (A : Option Addr) (n cap : Nat) (es ys : List BE) (hc : c.size ≤ 1000000) (hn : es.length = n) (hn2 : ys.length = n) (h0 : 0 < n) (hl : n ≤ 1000000) (htot : tot ys ≤ 1000000)
    (hnear : ∀ y ∈ es, y.s ≤ 1000000 ∧ y.e ≤ 1000000) (hown : W.ownsRow 0 68 3 (.slice A n cap) n (rowE es)) (hsort : sortE (es.map bE) = ys.map bE) (hio : InO c.data.toList.length ys 0) :
    Calls Tryz.prog 42 #[.string c, .slice A n cap] W fun e w' => LePost W c.data.toList ys e w' := by
  have hv := validate_calls W c A n cap es ys hc hn hn2 h0 hl htot hnear hown hsort hio
  have HV := Aside0.mk hv
  rw [data_length] at hio
  have HIO := Aside0.mk hio
  have HN2 := Lib.hid hn2
  clear hv hio hown hsort hn2 hn
  go_enter Tryz.func42, Tryz.ntmps42
  go_wp2
  refine wp_scope_to 0 rfl ?_
  go_wp2_with (go_at_call 55; (with_reducible refine HV.out.mono ?_); rintro e w1 ⟨v, sz, rfl, ho1, hb1⟩; rw [HN2.out] at ho1; obtain ⟨A1, c1, rfl⟩ := own_slice ho1; have HO1 := Aside0.mk ho1; have HB1 := Aside0.mk hb1; clear ho1 hb1)
  go_loopg [27] n (fun gk v27 wr => ∃ i : Nat, i + gk = n ∧ v27 = .int .i64 (i : Int) ∧ Hid (∀ j y, j < i → ys[j]? = some y → Fast c.data.toList y) ∧ Aside0 (Below w1.heap.size w1 wr))
  case atStart => exact ⟨0, by omega, rfl, Lib.hid (fun j y h => by omega), ⟨Below.refl _ _⟩⟩
  case round =>
    obtain ⟨i, hik, rfl, HF, HB⟩ := hrel
    by_cases hlt : i < n
    · obtain ⟨y, hy⟩ : ∃ y, ys[i]? = some y := ⟨_, List.getElem?_eq_getElem (by rw [HN2.out]; exact hlt)⟩
      have hg := rowE_get ys i y hy
      have HOr := pw_own_below HO1.out HB.out
      obtain ⟨ge, cg, hv, c0, hcap⟩ := own_get HOr _ _ hg.1
      injection hv with hv1 hv2 hv3
      subst hv1 hv3
      obtain ⟨_, _, hv, cc1, _⟩ := own_get HOr _ _ hg.2.1
      injection hv with hv1 hv2 hv3
      injection hv1 with hv1
      injection hv1 with hv1
      subst hv1
      clear hv2 hv3
      obtain ⟨_, _, hv, cc2, _⟩ := own_get HOr _ _ hg.2.2
      injection hv with hv1 hv2 hv3
      injection hv1 with hv1
      injection hv1 with hv1
      subst hv1
      clear hv2 hv3 hg HOr
      obtain ⟨p0, hin⟩ : ∃ p0, InO c.size (ys.drop i) p0 := inO_at' _ _ _ HIO.out
      obtain ⟨_, q2, q3, _⟩ := inO_drop hin hy
      have q5 : y.new.length ≤ 1000000 := Nat.le_trans (mem_tot ys y (List.mem_of_getElem? hy)) htot
      have hm : (mkS y.new).size ≤ 1000000 := by rw [mkS_size]; exact q5
      obtain ⟨N, hN⟩ : ∃ N, N = mkS y.new := ⟨_, rfl⟩
      rw [← hN] at cc2 hm
      obtain ⟨bf, hbf⟩ : ∃ bf, bf = fastB c.data.toList y := ⟨_, rfl⟩
      have HBF := Lib.hid hbf
      have HY := Lib.hid hy
      have HN := Lib.hid hN
      clear hN hbf hy hin
      go_upto_region 7 with fail
      go_cut [76] (fun v76 wx => v76 = .bool (!bf) ∧ Aside0 (Below wr.heap.size wr wx))
      case first =>
        -- <1
        by_cases hs : c.size ≤ y.s
        · have hb : bf = false := by rw [HBF.out]; exact decide_eq_false (fun h => by have := h.1; rw [data_length] at this; omega)
          have HB0 := Lib.hid hb
          clear hb
          go_wp2_with fail
          go_meet
          case rel => exact ⟨by rw [HB0.out]; rfl, ⟨below_alloc (Below.refl _ _) _⟩⟩
        · have hs1 : y.s < c.size := by omega
          have hs2 : decide (c.size ≤ y.s) = false := decide_eq_false hs
          have hs3 : y.s < c.data.toList.length := by rw [data_length]; exact hs1
          rcases place_facts c (p := y.s) (by omega) with ⟨p1, p2⟩ | ⟨p1, p2, p3⟩ | ⟨p1, p2, p3⟩
          · have p6 : decide (0 < y.s) = false := decide_eq_false (by omega)
            have p7 : y.s ≤ 0 := by omega
            clear p1
            rcases place_facts c (p := y.e) (by omega) with ⟨r1, r2⟩ | ⟨r1, r2, r3⟩ | ⟨r1, r2, r3⟩
            · have r6 : decide (0 < y.e) = false := decide_eq_false (by omega)
              have r7 : y.e ≤ 0 := by omega
              clear r1
              rcases new_facts HN.out with ⟨n1, n2⟩ | ⟨n1, n2, n3, n4⟩ | ⟨n1, n2, n3, n4⟩
              · have hb : bf = true := by rw [HBF.out]; exact decide_eq_true ⟨hs3, p2, r2, n2⟩
                have HB0 := Lib.hid hb
                have HS3 := Lib.hid hs3
                clear hb hs3
                go_wp2_with fail
                go_meet
                case rel => exact ⟨by rw [HB0.out]; rfl, ⟨below_alloc (Below.refl _ _) _⟩⟩
              · have n5 := n4 (by omega)
                have n6 : (1 : Int) ≤ (N.size : Int) := by omega
                have hb : bf = true := by rw [HBF.out]; exact decide_eq_true ⟨hs3, p2, r2, n3⟩
                clear n4
                have HB0 := Lib.hid hb
                have HS3 := Lib.hid hs3
                clear hb hs3
                go_wp2_with fail
                go_meet
                case rel => exact ⟨by rw [HB0.out]; rfl, ⟨below_alloc (Below.refl _ _) _⟩⟩
              · have n5 := n4 (by omega)
                have n6 : (1 : Int) ≤ (N.size : Int) := by omega
                have hb : bf = false := by rw [HBF.out]; exact decide_eq_false (fun h => n3 h.2.2.2)
                clear n4
                have HB0 := Lib.hid hb
                have HS3 := Lib.hid hs3
                clear hb hs3
                go_wp2_with fail
                go_meet
                case rel => exact ⟨by rw [HB0.out]; rfl, ⟨below_alloc (Below.refl _ _) _⟩⟩
            · have r5 := r3 (by omega)
              have r6 : (1 : Int) ≤ (y.e : Int) := by omega
              clear r3
              rcases new_facts HN.out with ⟨n1, n2⟩ | ⟨n1, n2, n3, n4⟩ | ⟨n1, n2, n3, n4⟩
              · have hb : bf = true := by rw [HBF.out]; exact decide_eq_true ⟨hs3, p2, r2, n2⟩
                have HB0 := Lib.hid hb
                have HS3 := Lib.hid hs3
                clear hb hs3
                go_wp2_with fail
                go_meet
                case rel => exact ⟨by rw [HB0.out]; rfl, ⟨below_alloc (Below.refl _ _) _⟩⟩
              · have n5 := n4 (by omega)
                have n6 : (1 : Int) ≤ (N.size : Int) := by omega
                have hb : bf = true := by rw [HBF.out]; exact decide_eq_true ⟨hs3, p2, r2, n3⟩
                clear n4
                have HB0 := Lib.hid hb
                have HS3 := Lib.hid hs3
                clear hb hs3
                go_wp2_with fail
                go_meet
                case rel => exact ⟨by rw [HB0.out]; rfl, ⟨below_alloc (Below.refl _ _) _⟩⟩
              · have n5 := n4 (by omega)
                have n6 : (1 : Int) ≤ (N.size : Int) := by omega
                have hb : bf = false := by rw [HBF.out]; exact decide_eq_false (fun h => n3 h.2.2.2)
                clear n4
                have HB0 := Lib.hid hb
                have HS3 := Lib.hid hs3
                clear hb hs3
                go_wp2_with fail
                go_meet
                case rel => exact ⟨by rw [HB0.out]; rfl, ⟨below_alloc (Below.refl _ _) _⟩⟩
            · have r5 := r3 (by omega)
              have r6 : (1 : Int) ≤ (y.e : Int) := by omega
              have hb : bf = false := by rw [HBF.out]; exact decide_eq_false (fun h => r2 h.2.2.1)
              clear r3
              have HB0 := Lib.hid hb
              have HS3 := Lib.hid hs3
              clear hb hs3
              go_wp2_with fail
              go_meet
              case rel => exact ⟨by rw [HB0.out]; rfl, ⟨below_alloc (Below.refl _ _) _⟩⟩
          · have p5 := p3 (by omega)
            have p6 : (1 : Int) ≤ (y.s : Int) := by omega
            clear p3
            rcases place_facts c (p := y.e) (by omega) with ⟨r1, r2⟩ | ⟨r1, r2, r3⟩ | ⟨r1, r2, r3⟩
            · exfalso; omega
            · have r5 := r3 (by omega)
              have r6 : (1 : Int) ≤ (y.e : Int) := by omega
              clear r3
              rcases new_facts HN.out with ⟨n1, n2⟩ | ⟨n1, n2, n3, n4⟩ | ⟨n1, n2, n3, n4⟩
              · have hb : bf = true := by rw [HBF.out]; exact decide_eq_true ⟨hs3, p2, r2, n2⟩
                have HB0 := Lib.hid hb
                have HS3 := Lib.hid hs3
                clear hb hs3
                go_wp2_with fail
                go_meet
                case rel => exact ⟨by rw [HB0.out]; rfl, ⟨below_alloc (Below.refl _ _) _⟩⟩
              · have n5 := n4 (by omega)
                have n6 : (1 : Int) ≤ (N.size : Int) := by omega
                have hb : bf = true := by rw [HBF.out]; exact decide_eq_true ⟨hs3, p2, r2, n3⟩
                clear n4
                have HB0 := Lib.hid hb
                have HS3 := Lib.hid hs3
                clear hb hs3
                go_wp2_with fail
                go_meet
                case rel => exact ⟨by rw [HB0.out]; rfl, ⟨below_alloc (Below.refl _ _) _⟩⟩
              · have n5 := n4 (by omega)
                have n6 : (1 : Int) ≤ (N.size : Int) := by omega
                have hb : bf = false := by rw [HBF.out]; exact decide_eq_false (fun h => n3 h.2.2.2)
                clear n4
                have HB0 := Lib.hid hb
                have HS3 := Lib.hid hs3
                clear hb hs3
                go_wp2_with fail
                go_meet
                case rel => exact ⟨by rw [HB0.out]; rfl, ⟨below_alloc (Below.refl _ _) _⟩⟩
            · have r5 := r3 (by omega)
              have r6 : (1 : Int) ≤ (y.e : Int) := by omega
              have hb : bf = false := by rw [HBF.out]; exact decide_eq_false (fun h => r2 h.2.2.1)
              clear r3
              have HB0 := Lib.hid hb
              have HS3 := Lib.hid hs3
              clear hb hs3
              go_wp2_with fail
              go_meet
              case rel => exact ⟨by rw [HB0.out]; rfl, ⟨below_alloc (Below.refl _ _) _⟩⟩
          · have p5 := p3 (by omega)
            have p6 : (1 : Int) ≤ (y.s : Int) := by omega
            have hb : bf = false := by rw [HBF.out]; exact decide_eq_false (fun h => p2 h.2.1)
            clear p3
            have HB0 := Lib.hid hb
            have HS3 := Lib.hid hs3
            clear hb hs3
            go_wp2_with fail
            go_meet
            case rel => exact ⟨by rw [HB0.out]; rfl, ⟨below_alloc (Below.refl _ _) _⟩⟩
        -- 1>
      case rest =>
        obtain ⟨rfl, HBX⟩ := hcut
        cases bf with
        | true =>
          have hfy0 : y.s < c.data.toList.length ∧ LS c.data.toList y.s ∧ LS c.data.toList y.e ∧ Whole y.new := of_decide_eq_true HBF.out.symm
          have hfy : Fast c.data.toList y := hfy0
          have HFY := Aside0.mk hfy
          clear hfy hfy0
          go_wp2_with fail
          go_roundg (n - (i + 1))
          case rel =>
            refine ⟨i + 1, by omega, by go_num, Lib.hid (fun j z hj hz => ?_), ⟨HB.out.trans (HBX.out.mono HB.out.size)⟩⟩
            by_cases e : j = i
            · subst e
              have h2 := HY.out
              rw [hz] at h2
              rw [Option.some.inj h2]; exact HFY.out
            · exact HF.out j z (by omega) hz
          case measure => omega
        | false =>
          clear HBF HN HF c0 cc1 cc2 hm
          go_wp2_with fail
          -- <2
          go_step3
          refine ⟨rfl, _, rfl, ?_⟩
          obtain ⟨x0, t, rfl⟩ : ∃ x0 t, ys = x0 :: t := by
            cases ys with
            | nil => have := HN2.out; simp at this; omega
            | cons a b => exact ⟨a, b, rfl⟩
          obtain ⟨_, i1, i2, i3⟩ := HIO.out
          have HOc := pw_own_below HO1.out (HB.out.trans (HBX.out.mono HB.out.size))
          have hg0 := rowE_get (x0 :: t) 0 x0 rfl
          obtain ⟨ge', _, hv, c0, hcap0⟩ := own_get HOc _ _ hg0.1
          injection hv with hv1 hv2 hv3
          injection hv1 with hv1
          injection hv1 with hv1
          subst hv1
          clear hv2 hv3 hcap0
          obtain ⟨_, _, hv, cc1, _⟩ := own_get HOc _ _ hg0.2.1
          injection hv with hv1 hv2 hv3
          injection hv1 with hv1
          injection hv1 with hv1
          subst hv1
          clear hv2 hv3
          obtain ⟨_, _, hv, cc2, _⟩ := own_get HOc _ _ hg0.2.2
          injection hv with hv1 hv2 hv3
          injection hv1 with hv1
          injection hv1 with hv1
          subst hv1
          clear hv2 hv3 hg0
          simp only [Nat.zero_mul, Nat.zero_add] at c0 cc1 cc2
          have HOC := Aside0.mk HOc
          have I3 := Aside0.mk i3
          have htl : Hid (t.length + 1 = n) := Lib.hid HN2.out
          have hgw : ge < wc.heap.size := own_lt HOc ge rfl
          obtain ⟨iS, hiS, hzS0, hzS1, hzS2⟩ := info_parts info_edit
          have hn0 : ((n : Int) == 0) = false := beq_eq_false_iff_ne.2 (by omega)
          clear HOc i3
          go_upto_region 14 with (at_make; go_loud (refine wpList_make_own _ (by rfl) (.const (.int .i64 0)) (.tmp 84) 53 (by rfl) wc.heap.size 68 iS _ 3 Tryz.underlying53 hiS hzS0 hzS1 .i64 .i64 (n : Int) n (by rfl) (by rfl) rfl (by rw [hzS2]; omega) (by unfold maxLen; omega) (Nat.le_refl _) ?_; intro w2 ho2 hg2; have HO2 := Aside0.mk ho2; have HG2 := Aside0.mk hg2; have d0 := (World.grownBy.cell_far hg2 ⟨ge, 0, none⟩ hgw (by simp)).trans c0; have d1 := (World.grownBy.cell_far hg2 ⟨ge, 1, none⟩ hgw (by simp)).trans cc1; have d2 := (World.grownBy.cell_far hg2 ⟨ge, 2, none⟩ hgw (by simp)).trans cc2; clear ho2 hg2 c0 cc1 cc2))
          obtain ⟨m, hm2⟩ : ∃ m, m = n - 1 := ⟨_, rfl⟩
          have hP := HG2.out.size
          have hex0 : Ex wc (w2.alloc (.cells #[.int .i64 (x0.s : Int), .int .i64 (x0.e : Int), .string (mkS x0.new)] 68)) w2.heap.size x0 (.slice (some ⟨wc.heap.size, 0, none⟩) 0 n) [] :=
            ⟨hP, new_obj w2 _, own_alloc HO2.out _, by
              have hlt := own_lt HO2.out wc.heap.size rfl
              simp only [Value.ownBlock, ne_eq, Option.some.injEq]; omega,
              below_alloc ((Fr.of_grown HG2.out).below (Nat.le_refl _) (fun k hk => by cases hk)) _⟩
          have HEX0 := Aside0.mk hex0
          have HM2 := Lib.hid hm2
          have hmn : m + 1 = n := by omega
          have HMN := Lib.hid hmn
          have hm6 : m ≤ 1000000 := by omega
          clear hex0 hm2 hmn
          obtain ⟨o1, cc, ho1, hsl⟩ := drop_one ge n c1 (by omega) hcap
          have hm2 := HM2.out
          rw [← hm2] at ho1 hsl
          clear hm2 hn0 hcap
          go_wp2_with fail
          clear d0 d1 d2 hsl
          obtain ⟨wl, hwl⟩ : ∃ wl, wl = w2.alloc (.cells #[.int .i64 (x0.s : Int), .int .i64 (x0.e : Int), .string (mkS x0.new)] 68) := ⟨_, rfl⟩
          rw [← hwl] at HEX0 ⊢
          clear hwl
          obtain ⟨P, hPP⟩ : ∃ P, P = w2.heap.size := ⟨_, rfl⟩
          rw [← hPP] at HEX0 ⊢
          clear hPP hP
          go_loopg [10, 92] m (fun gk v10 v92 wr => ∃ (k : Nat) (x : BE) (zs : List BE) (A10 : Option Addr) (c10 : Nat), k + gk = m ∧ v92 = .int .i64 (k : Int) ∧ v10 = .slice A10 zs.length c10 ∧ zs.length ≤ k ∧ x.s ≤ x.e ∧ x.e ≤ c.size ∧ x.new.length + tot (t.drop k) ≤ 1000000 + x.e ∧ Aside0 (InO c.size (t.drop k) x.e) ∧ Aside0 (Ex wc wr P x (.slice A10 zs.length c10) zs) ∧ Aside0 (∀ zs', ExpandAll c.data.toList x (t.drop k) zs' → ExpandAll c.data.toList x0 t (zs ++ zs')))
          case atStart =>
            refine ⟨0, x0, [], some ⟨wc.heap.size, 0, none⟩, n, by omega, rfl, rfl, Nat.le_refl _, i1, i2, ?_, ⟨I3.out⟩, ⟨HEX0.out⟩, ⟨fun zs' h => h⟩⟩
            have h2 : tot (x0 :: t) = x0.new.length + tot t := by simp [tot]
            rw [List.drop_zero]; omega
          case round =>
            obtain ⟨k, x, zs, A10, c10, hkm, rfl, rfl, hzk, hx1, hx2, hx3, HI, HX, HC⟩ := hrel
            obtain ⟨xs, xe, xn⟩ := x
            dsimp only at hx1 hx2 hx3
            have HXC := Aside0.mk (fun w => expand_calls w c xs xe xn hc hx1 hx2 (by omega))
            have b0 := blk_cell HX.out.blk 0
            have b1 := blk_cell HX.out.blk 1
            have b2 := blk_cell HX.out.blk 2
            simp only [List.getElem?_toArray, List.getElem?_cons_zero, List.getElem?_cons_succ] at b0 b1 b2
            have g0 := blk_frozen HX.out.blk 0
            have g1 := blk_frozen HX.out.blk 1
            have g2 := blk_frozen HX.out.blk 2
            have hPl : P < wr.heap.size := (Array.getElem?_eq_some_iff.1 HX.out.blk).1
            have hwcs : wc.heap.size ≤ wr.heap.size := HX.out.bl.size
            have hxnl : xn.length ≤ 2000000 := by omega
            obtain ⟨X, hX⟩ : ∃ X, X = mkS xn := ⟨_, rfl⟩
            have hXs : X.size ≤ 2000000 := by rw [hX, mkS_size]; exact hxnl
            rw [← hX] at b2 HXC
            have HXX := Lib.hid hX
            clear hX
            by_cases hk : k < m
            · have hkt : k < t.length := by have := htl.out; have := HMN.out; omega
              obtain ⟨y, hy⟩ : ∃ y, t[k]? = some y := ⟨_, List.getElem?_eq_getElem hkt⟩
              obtain ⟨q1, q2, q3, q4⟩ := inO_drop HI.out hy
              have hdk : t.drop k = y :: t.drop (k + 1) := by
                rw [List.drop_eq_getElem_cons hkt]
                congr 1
                exact (List.getElem?_eq_some_iff.1 hy).2
              have htk : tot (t.drop k) = y.new.length + tot (t.drop (k + 1)) := by rw [hdk]; simp [tot]
              obtain ⟨ys, ye, yn⟩ := y
              dsimp only at q1 q2 q3 q4 htk
              have hyl : yn.length ≤ 2000000 := by omega
              have hgy := rowE_get (x0 :: t) (k + 1) ⟨ys, ye, yn⟩ (by simpa using hy)
              have HOr := pw_own_below HOC.out HX.out.bl
              have h33 : (k + 1) * 3 = 3 + k * 3 := by omega
              obtain ⟨_, _, hv, e0, _⟩ := own_get HOr _ _ hgy.1
              injection hv with hv1 hv2 hv3
              injection hv1 with hv1
              injection hv1 with hv1
              subst hv1
              clear hv2 hv3
              obtain ⟨_, _, hv, e1, _⟩ := own_get HOr _ _ hgy.2.1
              injection hv with hv1 hv2 hv3
              injection hv1 with hv1
              injection hv1 with hv1
              subst hv1
              clear hv2 hv3
              obtain ⟨_, _, hv, e2, _⟩ := own_get HOr _ _ hgy.2.2
              injection hv with hv1 hv2 hv3
              injection hv1 with hv1
              injection hv1 with hv1
              subst hv1
              clear hv2 hv3
              rw [h33] at e0 e1 e2
              dsimp only at e0 e1 e2
              obtain rfl : o1 = 3 := ho1 (by omega)
              obtain ⟨Y, hY⟩ : ∃ Y, Y = mkS yn := ⟨_, rfl⟩
              have hYs : Y.size ≤ 2000000 := by rw [hY, mkS_size]; exact hyl
              rw [← hY] at e2
              have HYY := Lib.hid hY
              have HDK := Aside0.mk hdk
              have HQ4 := Aside0.mk q4
              have j1 : (xe : Int) ≤ (ys : Int) := by omega
              have j2 : (ys : Int) ≤ (c.size : Int) := by omega
              have hbs : (c.extract xe ys).size ≤ 1000000 := by rw [← data_length, ext_toList, List.length_drop, List.length_take, data_length]; omega
              have hbt : c.extract xe ys = mkS (btw c.data.toList xe ys) := ext_mkS c xe ys
              have hbl : (btw c.data.toList xe ys).length = ys - xe := btw_length (by rw [data_length]; omega)
              have hsum : xn.length + (ys - xe) + yn.length + tot (t.drop (k + 1)) ≤ 1000000 + ye := by omega
              have HBL := Lib.hid hbl
              have hct := fun (b : Bool) (hb : b = decide (¬ NoNl (btw c.data.toList xe ys))) w => contains_nl (c.extract xe ys) w (by omega) b (by rw [hb, hbt, mkS_toList])
              have HBT := Aside0.mk hbt
              clear hY hdk htk q4 hgy HOr h33 hy hbt hbl ho1
              by_cases hnl : NoNl (btw c.data.toList xe ys)
              · have hct2 := hct false (decide_eq_false (not_not_intro hnl)).symm
                have HCT := Aside0.mk hct2
                have HNL := Aside0.mk hnl
                clear hct hct2 hnl
                go_wp2_with (go_at_call 56; (with_reducible refine (HCT.out _).mono ?_); rintro e w' ⟨rfl, rfl⟩)
                go_roundg (m - (k + 1))
                case rel =>
                  have heq : X ++ (c.extract xe ys ++ Y) = mkS (xn ++ (btw c.data.toList xe ys ++ yn)) := by rw [HXX.out, HYY.out, HBT.out, mkS_app, mkS_app]
                  refine ⟨k + 1, ⟨xs, ye, xn ++ (btw c.data.toList xe ys ++ yn)⟩, zs, A10, c10, by omega, by go_num, rfl, by omega, by show xs ≤ ye; omega, by show ye ≤ c.size; omega, ?_, ⟨HQ4.out⟩, ⟨?_⟩, ⟨fun zs' hz => HC.out zs' ?_⟩⟩
                  · show (xn ++ (btw c.data.toList xe ys ++ yn)).length + _ ≤ 1000000 + ye
                    rw [List.length_append, List.length_append, HBL.out]; omega
                  · rw [heq]; exact HX.out.join _ ye _
                  · rw [HDK.out]; exact ExpandAll.join _ _ _ _ HNL.out hz
                case measure => omega
              · have hct2 := hct true (decide_eq_true hnl).symm
                have HCT := Aside0.mk hct2
                have HNL := Aside0.mk hnl
                clear hct hct2 hnl
                go_upto_region 21 with (go_at_call 56; (with_reducible refine (HCT.out _).mono ?_); rintro e w' ⟨rfl, rfl⟩)
                go_wp2_with (first
                  | (go_at_call 57; go_loud ((with_reducible refine (HXC.out _).mono ?_); rintro e we ⟨z, rfl, hex, hbe⟩; have HEX := Aside0.mk hex; have HE1 := Aside0.mk ((HX.out.below (below_alloc (Below.refl _ _) _)).below hbe); have heb := (hbe.block wr.heap.size (by simp)).trans (new_obj wr _); have HEB := Aside0.mk heb; have hwr2 := hbe.size; simp only [World.size_alloc] at hwr2; clear heb; have hwe := HE1.out.bl.size; clear hex hbe))
                  | (at_builtin; go_loud (refine wpList_append_lies _ (by rfl) (.tmp 116) (.tmp 120) 53 (by rfl) wc.heap.size 68 iS _ 3 32 Tryz.underlying53 hiS hzS0 hzS1 hzS2 (by rfl) (by decide) _ _ _ (by rfl) (own_alloc HE1.out.row _) ⟨we.heap.size, 0, none⟩ 1 1 [.int .i64 (z.s : Int), .int .i64 (z.e : Int), .string (mkS z.new)] (by rfl) (by rfl) ?h1 ?h2 ?h25 ?h3 ?h4 ?h5 _ rfl ?_; (case h1 => exact new_cells we _ _); (case h2 => intro u hu; simp at hu; rcases hu with rfl | rfl | rfl <;> rfl); (case h25 => decide); (case h3 => unfold maxLen; omega); (case h4 => omega); (case h5 => simp; omega); intro gg cap2 w7 hown1 hgrow hat hlt1; have HP7 := Aside0.mk (HE1.out.push (z := z) _ hgrow (by rw [rowE_append]; exact hown1) (hat_of hat)); have hE7 := (hgrow.block wr.heap.size (by simp; omega) (fun he => by have := own_lt HX.out.row wr.heap.size he.symm; omega)).trans ((Below.heap_alloc we _ wr.heap.size (by omega)).trans HEB.out); have x0 := blk_cell hE7 0; have x1 := blk_cell hE7 1; have x2 := blk_cell hE7 2; have y0 := blk_frozen HP7.out.blk 0; have y1 := blk_frozen HP7.out.blk 1; have y2 := blk_frozen HP7.out.blk 2; have z0 := blk_cell HP7.out.blk 0; have z1 := blk_cell HP7.out.blk 1; have z2 := blk_cell HP7.out.blk 2; simp only [List.getElem?_toArray, List.getElem?_cons_zero, List.getElem?_cons_succ] at x0 x1 x2 z0 z1 z2; clear hE7; clear hown1 hat hlt1 hgrow)))
                go_roundg (m - (k + 1))
                case rel =>
                  refine ⟨k + 1, ⟨ys, ye, yn⟩, zs ++ [z], some ⟨gg, 0, none⟩, cap2, by omega, by go_num, by simp, by simp; omega, by show ys ≤ ye; omega, by show ye ≤ c.size; omega, by show yn.length + _ ≤ 1000000 + ye; omega, ⟨HQ4.out⟩, ⟨?_⟩, ⟨fun zs' hz => ?_⟩⟩
                  · have h8 := HP7.out.take ⟨ys, ye, yn⟩
                    rw [← HYY.out] at h8
                    rw [List.length_append]
                    exact h8
                  · rw [List.append_assoc]
                    refine HC.out (z :: zs') ?_
                    rw [HDK.out]; exact ExpandAll.flush _ _ _ _ _ HNL.out HEX.out hz
                case measure => omega
            · have hk2 : decide (k < m) = false := decide_eq_false hk
              go_wp2_with (first
                | (go_at_call 57; go_loud ((with_reducible refine (HXC.out _).mono ?_); rintro e we ⟨z, rfl, hex, hbe⟩; have HEX := Aside0.mk hex; have HE1 := Aside0.mk (HX.out.below hbe); have hwe := HE1.out.bl.size; clear hex hbe))
                | (at_builtin; go_loud (refine wpList_append_lies _ (by rfl) (.tmp 124) (.tmp 128) 53 (by rfl) wc.heap.size 68 iS _ 3 32 Tryz.underlying53 hiS hzS0 hzS1 hzS2 (by rfl) (by decide) _ _ _ (by rfl) (own_alloc HE1.out.row _) ⟨we.heap.size, 0, none⟩ 1 1 [.int .i64 (z.s : Int), .int .i64 (z.e : Int), .string (mkS z.new)] (by rfl) (by rfl) ?h1 ?h2 ?h25 ?h3 ?h4 ?h5 _ rfl ?_; (case h1 => exact new_cells we _ _); (case h2 => intro u hu; simp at hu; rcases hu with rfl | rfl | rfl <;> rfl); (case h25 => decide); (case h3 => unfold maxLen; omega); (case h4 => omega); (case h5 => simp; omega); intro gg cap2 w7 hown1 hgrow hat hlt1; have HP7 := Aside0.mk (HE1.out.push (z := z) _ hgrow (by rw [rowE_append]; exact hown1) (hat_of hat)); clear hown1 hat hlt1 hgrow)))
              try simp only [Exit.noGoto]
              go_ret2
              have hkl : t.length ≤ k := by have := htl.out; have := HMN.out; omega
              refine ⟨_, zs ++ [z], rfl, Or.inr ⟨x0, t, rfl, HC.out [z] ?_⟩, own_lower HP7.out.row (Nat.zero_le _), ?_⟩
              · rw [List.drop_eq_nil_of_le hkl]; exact ExpandAll.last _ _ HEX.out
              · exact (HB1.out.trans ((HB.out.trans (HBX.out.mono HB.out.size)).mono HB1.out.size)).trans (HP7.out.bl.mono (Nat.le_trans HB1.out.size (HB.out.trans (HBX.out.mono HB.out.size)).size))
          -- 2>
    · have b1 : decide (i < n) = false := decide_eq_false hlt
      go_wp2_with fail
      simp only [Exit.jump]
      go_ret2
      refine ⟨_, ys, rfl, Or.inl ⟨rfl, fun z hz => ?_⟩, by rw [HN2.out]; exact pw_own_below HO1.out HB.out, HB1.out.trans (HB.out.mono HB1.out.size)⟩
      obtain ⟨j, hj, hj2⟩ := List.mem_iff_getElem.1 hz
      exact HF.out j z (by have := HN2.out; omega) (by rw [List.getElem?_eq_getElem hj, hj2])
end Go.Proofs.YtonajgipkpnpoaaGreatDoor.Un
