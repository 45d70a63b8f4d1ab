/- told, given; impl.Lines, impl.ToUnified; the number of lines of context. Printed by wip/gen/gento.py. xdiff.Strings, impl.Strings: the differences of two well-formed texts by code points, as edits. The law FnToUnifiedOfStrings. -/
import Derived.Test.YtonajgipkpnpoaaGreatDoorC32
import Derived.Test.YtonajgipkpnpoaaGreatDoorC38
namespace Go.Proofs.YtonajgipkpnpoaaGreatDoor.Un
open Go.RowKit Go.Sort Go.Sst Go.Proofs.YtonajgipkpnpoaaGreatDoorW.PrintWords Go.Uni
open Go.Proofs.YtonajgipkpnpoaaGreatDoor.Gr (lines_any)
set_option linter.unusedVariables false
theorem info_ie : (Tryz.prog.info? 67).map (fun i => (i.zero, i.size, i.bytes)) = some (some (.agg #[.int .i64 0, .int .i64 0, .string ⟨#[]⟩]), 3, 32) := by kernel_rfl
structure EdS (T : TypeId) (W w : World) (v : Value) (t : List BE) : Prop where
  bel : Go.RowKit.Below W.heap.size W w
  row : w.ownsRow W.heap.size T 3 v t.length (rowE t)
theorem EdS.push {T : TypeId} {W w w' : World} {v v' : Value} {t : List BE} {y : BE} {o1 o2 : Obj} {n : Nat} (h : EdS T W w v t) (hn : t.length = n) (hg : ((w.alloc o1).alloc o2).grownBy w' v.ownBlock) (hr : w'.ownsRow W.heap.size T 3 v' (n + 1) (rowE t ++ [.int .i64 (y.s : Int), .int .i64 (y.e : Int), .string (mkS y.new)])) : EdS T W w' v' (t ++ [y]) :=
  ⟨(below_alloc (below_alloc h.bel o1) o2).grown hg (by have := h.bel.size; simp; omega) (fun k hk => own_base h.row k hk), by
    rw [show (t ++ [y]).length = n + 1 by simp [hn], rowE_append]
    exact hr⟩
set_option maxRecDepth 100000 in
set_option maxHeartbeats 1000000 in
theorem told_any (W : World) (A : Option Addr) (cap : Nat) (es : List BE) (h : W.ownsRow 0 68 3 (.slice A es.length cap) es.length (rowE es)) (hl : es.length ≤ 1000000) :
    Calls Tryz.prog 25 #[.slice A es.length cap] W fun e w' => ∃ A' c', e = .returned (.slice A' es.length c') ∧ w'.ownsRow W.heap.size 67 3 (.slice A' es.length c') es.length (rowE es) ∧ Go.RowKit.Below W.heap.size W w' := by
  obtain ⟨i0, hi, hz0, hz1, hz2⟩ := info_parts info_ie
  have hnew : ∀ (W1 : World) (a b : Int) (x : ByteArray), ∀ j u, [Value.int .i64 a, .int .i64 b, .string x][j]? = some u → (W1.alloc (.cells #[.int .i64 a, .int .i64 b, .string x] 67)).cell? ((⟨W1.heap.size, 0, none⟩ : Addr).add j) = some u := fun W1 a b x j u hu => by
    rw [add_plain, blk_cell (new_obj W1 _)]
    simpa using hu
  have HN := Aside0.mk hnew
  have H := Aside0.mk h
  have hst : EdS 67 W (W.alloc (.cells #[] 67)) (.slice (some ⟨W.heap.size, 0, none⟩) 0 0) [] := ⟨below_alloc (Below.refl _ _) _, World.ownsRow_lit W #[] 0 (Nat.le_refl _) (by decide) rfl⟩
  have HST := Aside0.mk hst
  clear hnew h hst
  go_enter Tryz.func25, Tryz.ntmps25
  go_wp2_with fail
  go_loopw [3, 9] (fun v3 v9 wr => ∃ i : Nat, v9 = .int .i64 i ∧ i ≤ es.length ∧ Aside0 (EdS 67 W wr v3 (es.take i))) (fun _ v9 _ => es.length - (intOf v9).toNat)
  case atStart => exact ⟨0, rfl, Nat.zero_le _, HST⟩
  case round =>
    obtain ⟨i, rfl, hi1, HS⟩ := hrel
    clear HST
    obtain ⟨A3, c3, rfl⟩ := own_slice HS.out.row
    by_cases hlt : i < es.length
    · obtain ⟨y, hy⟩ : ∃ y, es[i]? = some y := ⟨_, List.getElem?_eq_getElem hlt⟩
      obtain ⟨g, rfl⟩ : ∃ g, A = some ⟨g, 0, none⟩ := by
        rcases H.out.2 with ⟨_, h1⟩ | ⟨g, cap', cur, hv, _⟩
        · omega
        · injection hv with hv
          exact ⟨g, hv⟩
      have hw := pw_own_below H.out HS.out.bel
      have hg := rowE_get es i y hy
      obtain ⟨k0, -⟩ := Gr.own_at hw _ _ hg.1
      obtain ⟨k1, -⟩ := Gr.own_at hw _ _ hg.2.1
      obtain ⟨k2, -⟩ := Gr.own_at hw _ _ hg.2.2
      have htk : es.take (i + 1) = es.take i ++ [y] := by
        rw [List.take_succ_eq_append_getElem hlt, (List.getElem?_eq_some_iff.1 hy).2]
      have hln : (es.take i).length = i := by rw [List.length_take]; omega
      have HTK := Lib.hid htk
      have HS2 := HS
      rw [hln] at HS
      have hrow : wr.ownsRow W.heap.size 67 3 (.slice A3 i c3) i (rowE (es.take i)) := by have := HS2.out.row; rw [hln] at this; exact this
      have HRW := Aside0.mk hrow
      have hs3 : EdS 67 W wr (.slice A3 i c3) (es.take i) := by have := HS2.out; rwa [hln] at this
      have HS3 := Aside0.mk hs3
      clear hs3
      have HLN := Lib.hid hln
      obtain ⟨S0, hS0⟩ : ∃ x, x = mkS y.new := ⟨_, rfl⟩
      rw [← hS0] at k2
      have HS0 := Lib.hid hS0
      rw [hln]
      clear hw hg hy htk hln hrow hS0
      go_wp2_with (at_builtin; go_loud (refine wpList_append_own _ rfl (.tmp 13) (.tmp 21) 36 rfl W.heap.size 67 i0 _ 3 32 Tryz.underlying36 hi hz0 hz1 hz2 rfl (by decide) _ i _ rfl (own_move HRW.out (fun k hk => (Below.heap_alloc _ _ k (by have := own_lt HRW.out k hk; simp; omega)).trans (Below.heap_alloc _ _ k (own_lt HRW.out k hk)))) ⟨wr.heap.size + 1, 0, none⟩ 1 1 [.int .i64 (y.s : Int), .int .i64 (y.e : Int), .string S0] rfl rfl ?h1 ?h2 ?h3 ?h4 ?h5 ?_; (case h1 => have hh := HN.out (wr.alloc (.cells #[.int .i64 (y.s : Int), .int .i64 (y.e : Int), .string S0] 68)) y.s y.e S0; (try simp only [World.size_alloc] at hh); exact hh); (case h2 => intro u hu; simp at hu; rcases hu with rfl | rfl | rfl <;> rfl); (case h3 => unfold maxLen; omega); (case h4 => omega); (case h5 => have := HS2.out.bel.size; simp; omega); intro v1 w1 hown hgr _; rw [HS0.out] at hown; have HP := Aside0.mk (EdS.push HS3.out HLN.out hgr hown); clear hown hgr))
      go_roundw
      case rel => exact ⟨i + 1, by go_num, by omega, ⟨by rw [HTK.out]; exact HP.out⟩⟩
      case measure => simp [intOf]; omega
    · obtain rfl : i = es.length := by omega
      go_wp2_with fail
      go_ret
      have hr := HS.out.row
      rw [List.take_length] at hr
      exact ⟨A3, c3, by rw [List.take_length]; rfl, by rw [List.take_length] at *; exact hr, HS.out.bel⟩
set_option maxRecDepth 100000 in
set_option maxHeartbeats 1000000 in
theorem given_any (W : World) (A : Option Addr) (cap : Nat) (es : List BE) (h : W.ownsRow 0 67 3 (.slice A es.length cap) es.length (rowE es)) (hl : es.length ≤ 1000000) :
    Calls Tryz.prog 24 #[.slice A es.length cap] W fun e w' => ∃ A' c', e = .returned (.slice A' es.length c') ∧ w'.ownsRow W.heap.size 68 3 (.slice A' es.length c') es.length (rowE es) ∧ Go.RowKit.Below W.heap.size W w' := by
  obtain ⟨i0, hi, hz0, hz1, hz2⟩ := info_parts info_edit
  have hnew : ∀ (W1 : World) (a b : Int) (x : ByteArray), ∀ j u, [Value.int .i64 a, .int .i64 b, .string x][j]? = some u → (W1.alloc (.cells #[.int .i64 a, .int .i64 b, .string x] 68)).cell? ((⟨W1.heap.size, 0, none⟩ : Addr).add j) = some u := fun W1 a b x j u hu => by
    rw [add_plain, blk_cell (new_obj W1 _)]
    simpa using hu
  have HN := Aside0.mk hnew
  have H := Aside0.mk h
  have hst : EdS 68 W (W.alloc (.cells #[] 68)) (.slice (some ⟨W.heap.size, 0, none⟩) 0 0) [] := ⟨below_alloc (Below.refl _ _) _, World.ownsRow_lit W #[] 0 (Nat.le_refl _) (by decide) rfl⟩
  have HST := Aside0.mk hst
  clear hnew h hst
  go_enter Tryz.func24, Tryz.ntmps24
  go_wp2_with fail
  go_loopw [3, 9] (fun v3 v9 wr => ∃ i : Nat, v9 = .int .i64 i ∧ i ≤ es.length ∧ Aside0 (EdS 68 W wr v3 (es.take i))) (fun _ v9 _ => es.length - (intOf v9).toNat)
  case atStart => exact ⟨0, rfl, Nat.zero_le _, HST⟩
  case round =>
    obtain ⟨i, rfl, hi1, HS⟩ := hrel
    clear HST
    obtain ⟨A3, c3, rfl⟩ := own_slice HS.out.row
    by_cases hlt : i < es.length
    · obtain ⟨y, hy⟩ : ∃ y, es[i]? = some y := ⟨_, List.getElem?_eq_getElem hlt⟩
      obtain ⟨g, rfl⟩ : ∃ g, A = some ⟨g, 0, none⟩ := by
        rcases H.out.2 with ⟨_, h1⟩ | ⟨g, cap', cur, hv, _⟩
        · omega
        · injection hv with hv
          exact ⟨g, hv⟩
      have hw := pw_own_below H.out HS.out.bel
      have hg := rowE_get es i y hy
      obtain ⟨k0, -⟩ := Gr.own_at hw _ _ hg.1
      obtain ⟨k1, -⟩ := Gr.own_at hw _ _ hg.2.1
      obtain ⟨k2, -⟩ := Gr.own_at hw _ _ hg.2.2
      have htk : es.take (i + 1) = es.take i ++ [y] := by
        rw [List.take_succ_eq_append_getElem hlt, (List.getElem?_eq_some_iff.1 hy).2]
      have hln : (es.take i).length = i := by rw [List.length_take]; omega
      have HTK := Lib.hid htk
      have HS2 := HS
      rw [hln] at HS
      have hrow : wr.ownsRow W.heap.size 68 3 (.slice A3 i c3) i (rowE (es.take i)) := by have := HS2.out.row; rw [hln] at this; exact this
      have HRW := Aside0.mk hrow
      have hs3 : EdS 68 W wr (.slice A3 i c3) (es.take i) := by have := HS2.out; rwa [hln] at this
      have HS3 := Aside0.mk hs3
      clear hs3
      have HLN := Lib.hid hln
      obtain ⟨S0, hS0⟩ : ∃ x, x = mkS y.new := ⟨_, rfl⟩
      rw [← hS0] at k2
      have HS0 := Lib.hid hS0
      rw [hln]
      clear hw hg hy htk hln hrow hS0
      go_wp2_with (at_builtin; go_loud (refine wpList_append_own _ rfl (.tmp 13) (.tmp 21) 53 rfl W.heap.size 68 i0 _ 3 32 Tryz.underlying53 hi hz0 hz1 hz2 rfl (by decide) _ i _ rfl (own_move HRW.out (fun k hk => (Below.heap_alloc _ _ k (by have := own_lt HRW.out k hk; simp; omega)).trans (Below.heap_alloc _ _ k (own_lt HRW.out k hk)))) ⟨wr.heap.size + 1, 0, none⟩ 1 1 [.int .i64 (y.s : Int), .int .i64 (y.e : Int), .string S0] rfl rfl ?h1 ?h2 ?h3 ?h4 ?h5 ?_; (case h1 => have hh := HN.out (wr.alloc (.cells #[.int .i64 (y.s : Int), .int .i64 (y.e : Int), .string S0] 67)) y.s y.e S0; (try simp only [World.size_alloc] at hh); exact hh); (case h2 => intro u hu; simp at hu; rcases hu with rfl | rfl | rfl <;> rfl); (case h3 => unfold maxLen; omega); (case h4 => omega); (case h5 => have := HS2.out.bel.size; simp; omega); intro v1 w1 hown hgr _; rw [HS0.out] at hown; have HP := Aside0.mk (EdS.push HS3.out HLN.out hgr hown); clear hown hgr))
      go_roundw
      case rel => exact ⟨i + 1, by go_num, by omega, ⟨by rw [HTK.out]; exact HP.out⟩⟩
      case measure => simp [intOf]; omega
    · obtain rfl : i = es.length := by omega
      go_wp2_with fail
      go_ret
      have hr := HS.out.row
      rw [List.take_length] at hr
      exact ⟨A3, c3, by rw [List.take_length]; rfl, by rw [List.take_length] at *; exact hr, HS.out.bel⟩
theorem context_ok (n : Int) (hn : -9223372036854775808 ≤ n ∧ n ≤ 9223372036854775807) : ∃ c : Nat, 1 ≤ c ∧ c ≤ 8 ∧ ∀ W, Calls Tryz.prog 16 #[.int .i64 n] W fun e w' => e = .returned (.int .i64 (c : Int)) ∧ W = w' := by
  have h1 : -8 < n.tmod 8 ∧ n.tmod 8 < 8 := by
    have a := Int.tmod_lt_of_pos n (show (0 : Int) < 8 by omega)
    have b := Int.lt_tmod_of_pos n (show (0 : Int) < 8 by omega)
    omega
  refine ⟨(1 + n.tmod 8 % 8).toNat, by omega, by omega, fun W => ?_⟩
  rw [show (((1 + n.tmod 8 % 8).toNat : Nat) : Int) = 1 + n.tmod 8 % 8 by omega]
  go_enter Tryz.func16, Tryz.ntmps16
  go_wp2
  go_ret
  exact ⟨rfl, rfl⟩
set_option maxRecDepth 100000 in
theorem implLines_any (W : World) (a b : ByteArray) (hab : a.size + b.size ≤ 1000000) :
    Calls Tryz.prog 15 #[.string a, .string b] W fun e w' => ∃ A cap es, e = .returned (.slice A es.length cap) ∧ Difs a b es ∧ w'.ownsRow W.heap.size 67 3 (.slice A es.length cap) es.length (rowE es) ∧ Go.RowKit.Below W.heap.size W w' := by
  have hl := (lines_any W a b (by omega) (by omega)).mono fun e w' h => lines_difs hab h
  go_enter Tryz.func15, Tryz.ntmps15
  go_wp2_with (first
    | (go_at_call 26; go_loud (refine hl.mono ?_; rintro e w1 ⟨A1, c1, es, rfl, hd, ho, hb1⟩; have HD := Aside0.mk hd; have HOW := Aside0.mk (own_lower ho (Nat.zero_le _)); have HB1 := Aside0.mk hb1; clear hd ho hb1))
    | (go_at_call 25; go_loud (refine (told_any w1 A1 c1 es HOW.out HD.out.eds.l6).mono ?_; rintro e w2 ⟨A2, c2, rfl, ho2, hb2⟩; have HO2 := Aside0.mk ho2; have HB2 := Aside0.mk hb2; clear ho2 hb2)))
  go_ret
  exact ⟨A2, c2, es, rfl, HD.out, Gr.own_base_mono HO2.out HB1.out.size, HB1.out.trans (HB2.out.mono HB1.out.size)⟩
set_option maxRecDepth 100000 in
theorem implTo_any (W : World) (fa fb a b : ByteArray) (A : Option Addr) (cap : Nat) (es : List BE) (ctx : Nat) (hctx : 1 ≤ ctx) (hctx2 : ctx ≤ 8) (hd : Difs a b es) (hfa : fa.size ≤ 1000000) (hfb : fb.size ≤ 1000000) (ht : Tab W) (ho : W.ownsRow 0 67 3 (.slice A es.length cap) es.length (rowE es)) :
    Calls Tryz.prog 14 #[.string fa, .string fb, .string a, .slice A es.length cap, .int .i64 ctx] W fun e w' => ∃ U, e = .returned (.tuple #[.string U, .bool true]) ∧ formU fa fb a.data.toList ctx es U ∧ Go.RowKit.Below W.heap.size W w' := by
  have hg := given_any W A cap es ho hd.eds.l6
  have hto : ∀ W1 A1 c1, Go.RowKit.Below W.heap.size W W1 → W1.ownsRow 0 68 3 (.slice A1 es.length c1) es.length (rowE es) → Calls Tryz.prog 23 #[(.string fa), (.string fb), .string a, .slice A1 es.length c1, .int .i64 ctx] W1 fun e w' => ToPost W1 fa fb a.data.toList ctx es .nilIface e w' := fun W1 A1 c1 hb ho =>
    toU_calls W1 fa fb a A1 c1 es es ctx hctx hctx2 hd.eds hfa hfb (ht.stay hb (Nat.le_refl _)) ho
  have HTO := Aside0.mk hto
  clear hto ht ho hd
  go_enter Tryz.func14, Tryz.ntmps14
  go_wp2_with (first
    | (go_at_call 24; go_loud (refine hg.mono ?_; rintro e w1 ⟨A1, c1, rfl, ho1, hb1⟩; have HOW := Aside0.mk (own_lower ho1 (Nat.zero_le _)); have HB1 := Aside0.mk hb1; clear ho1 hb1))
    | (go_at_call 23; go_loud (refine (HTO.out _ _ _ HB1.out HOW.out).mono ?_; rintro e w2 ⟨U, rfl, hf, hb2⟩; have HF := Aside0.mk hf; have HB2 := Aside0.mk hb2; clear hf hb2)))
  go_quiet (fail)
  go_wp2_with fail
  go_ret2
  exact ⟨U, rfl, HF.out, pw_below_drewN (HB1.out.trans (HB2.out.mono HB1.out.size)) _⟩
end Go.Proofs.YtonajgipkpnpoaaGreatDoor.Un
namespace Go.Proofs.YtonajgipkpnpoaaGreatDoor.Un
open Go.RowKit Go.Sort Go.Sst Go.Proofs.YtonajgipkpnpoaaGreatDoorW.PrintWords Go.Uni
open Go.Proofs.YtonajgipkpnpoaaGreatDoor.Gr (BtS RnS DfsPost ascii_any runes_any prs prs_length)
open Go.Utx
set_option linter.unusedVariables false
theorem below_bytes (w : World) (e : TypeId) (s : ByteArray) : Below w.heap.size w (Lib.bytesWorld w e s) :=
  ⟨rfl, rfl, rfl, by rw [Lib.bytesWorld_size]; omega, fun k hk => Lib.bytesWorld_at_old w e s k hk⟩
theorem bytes_row (w : World) (e : TypeId) (s : ByteArray) : BtS (Lib.bytesWorld w e s) w.heap.size (grownCap w s.size 0 e) s.data.toList :=
  ⟨by rw [← Lib.size_eq]; exact grownCap_ge w s.size 0 e, by rw [Lib.bytesWorld_size]; omega, fun i hi => Lib.bytesWorld_cell w e s i (by rw [Lib.size_eq]; exact hi)⟩
def runesWorld (w : World) (e : TypeId) (s : ByteArray) : World :=
  w.drew.alloc (.cells (((runesL s.data.toList).map fun r : Nat => Value.int .i32 (r : Int)).toArray ++ Array.replicate (grownCap w (runesL s.data.toList).length 0 e - (runesL s.data.toList).length) (.int .i32 0)) e)
theorem run_runes (w : World) (s : ByteArray) (h : s.size ≤ 1000000) :
    (convert 9 80 (.string s)).run Tryz.prog w = .ok (.slice (some ⟨w.heap.size, 0, none⟩) (runesL s.data.toList).length (grownCap w (runesL s.data.toList).length 0 21)) (runesWorld w 21 s) := by
  have hl := runesL_len s.data.toList
  rw [← Lib.size_eq] at hl
  have := run_runes_of_string (P := Tryz.prog) w 9 80 21 s (by kernel_rfl) (by kernel_rfl) (by kernel_rfl) (by rw [runesFrom_size]; omega)
  rw [runesFrom_size, runesFrom_all] at this
  exact this
theorem below_runes (w : World) (e : TypeId) (s : ByteArray) : Below w.heap.size w (runesWorld w e s) :=
  below_alloc (pw_below_drewN (Below.refl w.heap.size w) 1) _
theorem runes_row (w : World) (e : TypeId) (s : ByteArray) : RnS (runesWorld w e s) w.heap.size (grownCap w (runesL s.data.toList).length 0 e) (runesL s.data.toList) := by
  refine ⟨grownCap_ge w _ 0 e, by simp [runesWorld], fun i hi => ?_⟩
  have h := blk_cell (Gr.new_obj w.drew (.cells (((runesL s.data.toList).map fun r : Nat => Value.int .i32 (r : Int)).toArray ++ Array.replicate (grownCap w (runesL s.data.toList).length 0 e - (runesL s.data.toList).length) (.int .i32 0)) e)) i
  have e1 : w.drew.heap.size = w.heap.size := rfl
  rw [e1] at h
  refine h.trans ?_
  rw [Array.getElem?_append_left (by simpa using hi)]
  simp [List.getD_eq_getElem?_getD, hi]
theorem difs_nil (a : ByteArray) (h : a.size ≤ 1000000) : Difs a a [] := by
  refine Difs.of (A := [a.data.toList]) (B := [a.data.toList]) ⟨by simp [InO, off], by simp [Go.Uni.app, off], fun e he => by simp at he, by simp [tot]⟩ (by simp) (by simp) h h (Nat.zero_le _)
def SdPost (W : World) (a b : ByteArray) (e : Ending) (w' : World) : Prop :=
  ∃ A cap es, e = .returned (.slice A es.length cap) ∧ Difs a b es ∧ w'.ownsRow W.heap.size 68 3 (.slice A es.length cap) es.length (rowE es) ∧ Below W.heap.size W w'
theorem SdPost.of {W w1 : World} {a b : ByteArray} {LA LB : List Bs} {e : Ending} {w' : World} (h : DfsPost w1 LA LB e w') (hb : Below W.heap.size W w1) (ha : LA.flatten = a.data.toList) (hb2 : LB.flatten = b.data.toList) (hla : LA.length ≤ a.size) (hlb : LB.length ≤ b.size) (hs : a.size + b.size ≤ 1000000) : SdPost W a b e w' := by
  obtain ⟨A, cap, es, h1, h2, h3, h4, h5, h6⟩ := h
  exact ⟨A, cap, es, h1, Difs.of h2 ha hb2 (by omega) (by omega) (by omega), Gr.own_base_mono h5 hb.size, hb.trans (h6.mono hb.size)⟩
set_option maxRecDepth 100000 in
set_option maxHeartbeats 1000000 in
theorem strings_any (W : World) (a b : ByteArray) (hva : Lib.validD a.data.toList = true) (hvb : Lib.validD b.data.toList = true) (hs : a.size + b.size ≤ 1000000) :
    Calls Tryz.prog 28 #[.string a, .string b] W fun e w' => SdPost W a b e w' := by
  by_cases hab : a = b
  · subst hab
    have hd := Aside0.mk (difs_nil a (by omega))
    go_enter Tryz.func28, Tryz.ntmps28
    go_wp2_with fail
    go_ret
    exact ⟨none, 0, [], rfl, hd.out, World.ownsRow_nil _ _ _ _, Below.refl _ _⟩
  have hn1 := data_length a
  have hn2 := data_length b
  have hba : (a.toList == b.toList) = false := beq_eq_false_iff_ne.2 (fun h => hab (by rw [← mkS_of a, ← mkS_of b, ← toList_data, ← toList_data, h]))
  have hia := fun w => isASCII_any a (by omega) w
  have hib := fun w => isASCII_any b (by omega) w
  have hra := fun w => run_runes w a (by omega)
  have hrb := fun w => run_runes w b (by omega)
  have hlra := runesL_len a.data.toList
  have hlrb := runesL_len b.data.toList
  have hru : ∀ w1, Below W.heap.size W w1 → Calls Tryz.prog 38 #[.slice (some ⟨w1.heap.size, 0, none⟩) (runesL a.data.toList).length (grownCap w1 (runesL a.data.toList).length 0 21), .slice (some ⟨(runesWorld w1 21 a).heap.size, 0, none⟩) (runesL b.data.toList).length (grownCap (runesWorld w1 21 a) (runesL b.data.toList).length 0 21)] (runesWorld (runesWorld w1 21 a) 21 b) fun e w' => SdPost W a b e w' := fun w1 hb1 => by
    have b1 := below_runes w1 21 a
    have b2 := below_runes (runesWorld w1 21 a) 21 b
    refine (runes_any _ _ _ _ _ _ _ ((runes_row w1 21 a).below b2) (runes_row _ _ b) (by omega) (by omega) (runesL_ok _) (runesL_ok _)).mono fun e w' h => SdPost.of h ?_ (runesL_flat hva) (runesL_flat hvb) (by rw [prs_length]; omega) (by rw [prs_length]; omega) hs
    exact (hb1.trans (b1.mono hb1.size)).trans (b2.mono (hb1.trans (b1.mono hb1.size)).size)
  have HRU := Aside0.mk hru
  clear hru hva hvb
  cases hA : asc a.data.toList with
  | false =>
    rw [hA] at hia
    clear hib hA
    go_enter Tryz.func28, Tryz.ntmps28
    go_wp2_with (first
      | (go_at_call 36; go_loud (refine (hia _).mono ?_; rintro e w1 ⟨rfl, hb1⟩; have HB1 := Aside0.mk hb1; clear hb1))
      | (go_at_call 38; go_loud (refine (HRU.out w1 HB1.out).mono ?_; rintro e w2 ⟨A2, c2, es, rfl, h1, h2, h3⟩; have H1 := Aside0.mk h1; have H2 := Aside0.mk h2; have H3 := Aside0.mk h3; clear h1 h2 h3)))
    go_ret
    exact ⟨A2, c2, es, rfl, H1.out, H2.out, H3.out⟩
  | true =>
    rw [hA] at hia
    cases hB : asc b.data.toList with
    | false =>
      rw [hB] at hib
      clear hA hB
      go_enter Tryz.func28, Tryz.ntmps28
      go_wp2_with (first
        | (go_at_call 36; first | (refine (hib w1).mono ?_; rintro e w1b ⟨rfl, hb2⟩; have HB2 := Aside0.mk (HB1.out.trans (hb2.mono HB1.out.size)); clear hb2) | (refine (hia _).mono ?_; rintro e w1 ⟨rfl, hb1⟩; have HB1 := Aside0.mk hb1; clear hb1))
        | (go_at_call 38; go_loud (refine (HRU.out w1b HB2.out).mono ?_; rintro e w2 ⟨A2, c2, es, rfl, h1, h2, h3⟩; have H1 := Aside0.mk h1; have H2 := Aside0.mk h2; have H3 := Aside0.mk h3; clear h1 h2 h3)))
      go_ret
      exact ⟨A2, c2, es, rfl, H1.out, H2.out, H3.out⟩
    | true =>
      rw [hB] at hib
      clear hA hB hra hrb HRU
      have hca := fun w => Lib.run_convert_string_bytes (P := Tryz.prog) w 9 78 5 a (u := .string) (by kernel_rfl) (by kernel_rfl) (by kernel_rfl)
      have hcb := fun w => Lib.run_convert_string_bytes (P := Tryz.prog) w 9 78 5 b (u := .string) (by kernel_rfl) (by kernel_rfl) (by kernel_rfl)
      have has : ∀ w1, Below W.heap.size W w1 → Calls Tryz.prog 37 #[.slice (some ⟨w1.heap.size, 0, none⟩) a.size (grownCap w1 a.size 0 5), .slice (some ⟨(Lib.bytesWorld w1 5 a).heap.size, 0, none⟩) b.size (grownCap (Lib.bytesWorld w1 5 a) b.size 0 5)] (Lib.bytesWorld (Lib.bytesWorld w1 5 a) 5 b) fun e w' => SdPost W a b e w' := fun w1 hb1 => by
        have b1 := below_bytes w1 5 a
        have b2 := below_bytes (Lib.bytesWorld w1 5 a) 5 b
        have := ascii_any _ _ _ _ _ _ _ ((bytes_row w1 5 a).below b2) (bytes_row _ _ b) (by omega) (by omega)
        rw [hn1, hn2] at this
        refine this.mono fun e w' h => SdPost.of h ?_ (ones_flat _) (ones_flat _) (by rw [ones_length]; omega) (by rw [ones_length]; omega) hs
        exact (hb1.trans (b1.mono hb1.size)).trans (b2.mono (hb1.trans (b1.mono hb1.size)).size)
      have HAS := Aside0.mk has
      clear has
      go_enter Tryz.func28, Tryz.ntmps28
      go_wp2_with (first
        | (go_at_call 36; first | (refine (hib w1).mono ?_; rintro e w1b ⟨rfl, hb2⟩; have HB2 := Aside0.mk (HB1.out.trans (hb2.mono HB1.out.size)); clear hb2) | (refine (hia _).mono ?_; rintro e w1 ⟨rfl, hb1⟩; have HB1 := Aside0.mk hb1; clear hb1))
        | (go_at_call 37; go_loud (refine (HAS.out w1b HB2.out).mono ?_; rintro e w2 ⟨A2, c2, es, rfl, h1, h2, h3⟩; have H1 := Aside0.mk h1; have H2 := Aside0.mk h2; have H3 := Aside0.mk h3; clear h1 h2 h3)))
      go_ret
      exact ⟨A2, c2, es, rfl, H1.out, H2.out, H3.out⟩
set_option maxRecDepth 100000 in
theorem implStrings_any (W : World) (a b : ByteArray) (hva : Lib.validD a.data.toList = true) (hvb : Lib.validD b.data.toList = true) (hab : a.size + b.size ≤ 1000000) :
    Calls Tryz.prog 18 #[.string a, .string b] W fun e w' => ∃ A cap es, e = .returned (.slice A es.length cap) ∧ Difs a b es ∧ w'.ownsRow W.heap.size 67 3 (.slice A es.length cap) es.length (rowE es) ∧ Go.RowKit.Below W.heap.size W w' := by
  have hl := strings_any W a b hva hvb hab
  clear hva hvb
  go_enter Tryz.func18, Tryz.ntmps18
  go_wp2_with (first
    | (go_at_call 28; go_loud (refine hl.mono ?_; rintro e w1 ⟨A1, c1, es, rfl, hd, ho, hb1⟩; have HD := Aside0.mk hd; have HOW := Aside0.mk (own_lower ho (Nat.zero_le _)); have HB1 := Aside0.mk hb1; clear hd ho hb1))
    | (go_at_call 25; go_loud (refine (told_any w1 A1 c1 es HOW.out HD.out.eds.l6).mono ?_; rintro e w2 ⟨A2, c2, rfl, ho2, hb2⟩; have HO2 := Aside0.mk ho2; have HB2 := Aside0.mk hb2; clear ho2 hb2)))
  go_ret
  exact ⟨A2, c2, es, rfl, HD.out, Gr.own_base_mono HO2.out HB1.out.size, HB1.out.trans (HB2.out.mono HB1.out.size)⟩
theorem context3 (W : World) : Calls Tryz.prog 10 #[] W fun e w' => e = .returned (.int .i64 3) ∧ W = w' := by
  go_enter Tryz.func10, Tryz.ntmps10
  go_wp2
  go_ret
  exact ⟨rfl, rfl⟩
end Go.Proofs.YtonajgipkpnpoaaGreatDoor.Un
namespace Go.Proofs.YtonajgipkpnpoaaGreatDoor.Un
open Go.RowKit Go.Sort Go.Sst Go.Proofs.YtonajgipkpnpoaaGreatDoorW.PrintWords Go.Uni
set_option linter.unusedVariables false
set_option maxRecDepth 100000 in
set_option maxHeartbeats 2000000 in
theorem law8 (W : World) (a b : ByteArray) (n : Int) (hn : -9223372036854775808 ≤ n ∧ n ≤ 9223372036854775807) (ht : Tab W) :
    Calls Tryz.prog 6 #[.string a, .string b, .int .i64 n] W (LawPost W) := by
  by_cases h0 : (a.size : Int) > 2147483647
  · clear ht
    go_enter Tryz.func6, Tryz.ntmps6
    go_wp2_with fail
    go_ret
    exact ⟨rfl, Below.refl _ _⟩
  by_cases h1 : (b.size : Int) > 2147483647
  · clear ht
    go_enter Tryz.func6, Tryz.ntmps6
    go_wp2_with fail
    go_ret
    exact ⟨rfl, Below.refl _ _⟩
  have htl := tooLong_any (W.alloc (.cells #[.int .i64 (a.size : Int), .int .i64 (b.size : Int)] 3)) W.heap.size 2 [a.size, b.size] (lit_cells W [a.size, b.size]) (by simp) (by intro n hn; simp at hn; omega)
  have HT := Aside0.mk ht
  clear ht
  obtain ⟨ctx, hc1, hc2, hcx⟩ := context_ok n hn
  have HCX := Aside0.mk hcx
  clear hcx
  go_enter Tryz.func6, Tryz.ntmps6
  go_upto_if 25 with (go_at_call 7; go_loud (refine htl.mono ?_; rintro e w1 ⟨bb, rfl, hbb, rfl⟩; have HBB := Lib.hid hbb; clear hbb))
  have hb1 : Below W.heap.size W (W.alloc (.cells #[.int .i64 (a.size : Int), .int .i64 (b.size : Int)] 3)) := below_alloc (Below.refl _ _) _
  have HB1 := Aside0.mk hb1
  clear hb1 htl
  cases bb with
  | true =>
    go_wp2_with fail
    go_ret
    exact ⟨rfl, HB1.out⟩
  | false =>
    have hsum := HBB.out rfl
    simp only [List.sum_cons, List.sum_nil] at hsum
    clear HBB
    have hwa := fun w => wellFormed_any a (by omega) w
    have hwb := fun w => wellFormed_any b (by omega) w
    cases hva : Lib.validD a.data.toList with
    | false =>
      rw [hva] at hwa
      clear hva hwb
      go_wp2_with (first
        | (go_at_call 17; go_loud (refine (hwa _).mono ?_; rintro e wa ⟨rfl, hba⟩; have HBA := Aside0.mk (HB1.out.trans (hba.mono HB1.out.size)); clear hba))
        | (go_at_call 10; go_loud (refine (context3 _).mono ?_; rintro e w' ⟨rfl, rfl⟩)))
      go_ret
      exact ⟨rfl, HBA.out⟩
    | true =>
      rw [hva] at hwa
      cases hvb : Lib.validD b.data.toList with
      | false =>
        rw [hvb] at hwb
        clear hva hvb
        go_wp2_with (first
          | (go_at_call 17; first | (refine (hwb wa).mono ?_; rintro e wb ⟨rfl, hbb⟩; have HBB := Aside0.mk (HBA.out.trans (hbb.mono HBA.out.size)); clear hbb) | (refine (hwa _).mono ?_; rintro e wa ⟨rfl, hba⟩; have HBA := Aside0.mk (HB1.out.trans (hba.mono HB1.out.size)); clear hba))
          | (go_at_call 10; go_loud (refine (context3 _).mono ?_; rintro e w' ⟨rfl, rfl⟩)))
        go_ret
        exact ⟨rfl, HBB.out⟩
      | true =>
        rw [hvb] at hwb
        have HUN := Aside0.mk (fun w => implStrings_any w a b hva hvb (by omega))
        clear hva hvb
        have HLL := Aside0.mk (lines_len a (by omega))
        have hsl := splitL_length_le a.data.toList
        rw [data_length] at hsl
        go_wp2_with (first
          | (go_at_call 17; first | (refine (hwb wa).mono ?_; rintro e wb ⟨rfl, hbb⟩; have HBB := Aside0.mk (HBA.out.trans (hbb.mono HBA.out.size)); clear hbb) | (refine (hwa _).mono ?_; rintro e wa ⟨rfl, hba⟩; have HBA := Aside0.mk (HB1.out.trans (hba.mono HB1.out.size)); clear hba))
          | (go_at_call 18; go_loud (refine (HUN.out wb).mono ?_; rintro e w2 ⟨A2, c2, es, rfl, hd, ho2, hb2⟩; have HD := Aside0.mk hd; have HO2 := Aside0.mk (own_lower ho2 (Nat.zero_le _)); have HB2 := Aside0.mk (HBB.out.trans (hb2.mono HBB.out.size)); clear hd ho2 hb2))
          | (go_at_call 16; go_loud (refine (HCX.out _).mono ?_; rintro e w' ⟨rfl, rfl⟩))
          | (go_at_call 14; go_loud (refine (implTo_any w2 ⟨#[97]⟩ ⟨#[98]⟩ a b A2 c2 es ctx hc1 hc2 HD.out (by decide) (by decide) (HT.out.stay HB2.out (Nat.le_refl _)) HO2.out).mono ?_; rintro e w3 ⟨U, rfl, hU, hb3⟩; have HU := Aside0.mk hU; have HB3 := Aside0.mk (HB2.out.trans (hb3.mono HB2.out.size)); clear hU hb3))
          | (go_at_call 8; go_loud (refine (read_all (ctx := ctx) hc1 HD.out (by decide) (by decide) HU.out _).mono ?_; rintro e w4 ⟨H, ⟨v, L, rfl, hLm, hx, ho, hb4⟩, hHl, har⟩; have HLEN : Hid (L.length ≤ 1000000000) := Lib.hid (by rw [← hLm, List.length_map] at hHl; omega); have HLM := Lib.hid hLm; have HX := Aside0.mk hx; have HOW := Aside0.mk ho; have HAR := Aside0.mk har; have HB4 := Aside0.mk (HB3.out.trans (hb4.mono HB3.out.size)); clear hLm hx ho har hb4 hHl))
          | (go_at_call 12; go_loud (refine (HLL.out _).mono ?_; rintro e w5 ⟨AL, cL, rfl, hb5⟩; have HB5 := Aside0.mk (HB4.out.trans (hb5.mono HB4.out.size)); have HOW5 := Aside0.mk (pw_own_below HOW.out hb5); clear hb5))
          | (go_at_call 11; go_loud (refine (around_any _ _ v L ctx _ hc2 (by omega) HOW5.out HLEN.out HX.out (fun x hx => HAR.out x.h (by rw [← HLM.out]; exact List.mem_map_of_mem hx))).mono ?_; rintro e w6 ⟨rfl, hb6⟩; have HB6 := Aside0.mk (HB5.out.trans (hb6.mono HB5.out.size)); clear hb6)))
        go_ret
        exact ⟨rfl, HB6.out⟩
end Go.Proofs.YtonajgipkpnpoaaGreatDoor.Un
