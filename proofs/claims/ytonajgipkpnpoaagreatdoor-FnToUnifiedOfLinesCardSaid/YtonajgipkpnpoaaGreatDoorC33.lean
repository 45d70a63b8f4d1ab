/- told, given; impl.Lines, impl.ToUnified; the number of lines of context. Printed by wip/gen/gento.py. The law FnToUnifiedOfLines. -/
import Derived.Test.YtonajgipkpnpoaaGreatDoorC32
namespace Go.Proofs.YtonajgipkpnpoaaGreatDoor.Un
open Go.RowKit Go.Sort Go.Sst Go.Proofs.YtonajgipkpnpoaaGreatDoorW.PrintWords Go.Uni
open Go.Proofs.YtonajgipkpnpoaaGreatDoor.Gr (lines_any)
set_option linter.unusedVariables false
theorem info_ie : (Tryz.prog.info? 67).map (fun i => (i.zero, i.size, i.bytes)) = some (some (.agg #[.int .i64 0, .int .i64 0, .string ⟨#[]⟩]), 3, 32) := by kernel_rfl
structure EdS (T : TypeId) (W w : World) (v : Value) (t : List BE) : Prop where
  bel : Go.RowKit.Below W.heap.size W w
  row : w.ownsRow W.heap.size T 3 v t.length (rowE t)
theorem EdS.push {T : TypeId} {W w w' : World} {v v' : Value} {t : List BE} {y : BE} {o1 o2 : Obj} {n : Nat} (h : EdS T W w v t) (hn : t.length = n) (hg : ((w.alloc o1).alloc o2).grownBy w' v.ownBlock) (hr : w'.ownsRow W.heap.size T 3 v' (n + 1) (rowE t ++ [.int .i64 (y.s : Int), .int .i64 (y.e : Int), .string (mkS y.new)])) : EdS T W w' v' (t ++ [y]) :=
  ⟨(below_alloc (below_alloc h.bel o1) o2).grown hg (by have := h.bel.size; simp; omega) (fun k hk => own_base h.row k hk), by
    rw [show (t ++ [y]).length = n + 1 by simp [hn], rowE_append]
    exact hr⟩
set_option maxRecDepth 100000 in
set_option maxHeartbeats 1000000 in
theorem told_any (W : World) (A : Option Addr) (cap : Nat) (es : List BE) (h : W.ownsRow 0 68 3 (.slice A es.length cap) es.length (rowE es)) (hl : es.length ≤ 1000000) :
    Calls Tryz.prog 25 #[.slice A es.length cap] W fun e w' => ∃ A' c', e = .returned (.slice A' es.length c') ∧ w'.ownsRow W.heap.size 67 3 (.slice A' es.length c') es.length (rowE es) ∧ Go.RowKit.Below W.heap.size W w' := by
  obtain ⟨i0, hi, hz0, hz1, hz2⟩ := info_parts info_ie
  have hnew : ∀ (W1 : World) (a b : Int) (x : ByteArray), ∀ j u, [Value.int .i64 a, .int .i64 b, .string x][j]? = some u → (W1.alloc (.cells #[.int .i64 a, .int .i64 b, .string x] 67)).cell? ((⟨W1.heap.size, 0, none⟩ : Addr).add j) = some u := fun W1 a b x j u hu => by
    rw [add_plain, blk_cell (new_obj W1 _)]
    simpa using hu
  have HN := Aside0.mk hnew
  have H := Aside0.mk h
  have hst : EdS 67 W (W.alloc (.cells #[] 67)) (.slice (some ⟨W.heap.size, 0, none⟩) 0 0) [] := ⟨below_alloc (Below.refl _ _) _, World.ownsRow_lit W #[] 0 (Nat.le_refl _) (by decide) rfl⟩
  have HST := Aside0.mk hst
  clear hnew h hst
  go_enter Tryz.func25, Tryz.ntmps25
  go_wp2_with fail
  go_loopw [3, 9] (fun v3 v9 wr => ∃ i : Nat, v9 = .int .i64 i ∧ i ≤ es.length ∧ Aside0 (EdS 67 W wr v3 (es.take i))) (fun _ v9 _ => es.length - (intOf v9).toNat)
  case atStart => exact ⟨0, rfl, Nat.zero_le _, HST⟩
  case round =>
    obtain ⟨i, rfl, hi1, HS⟩ := hrel
    clear HST
    obtain ⟨A3, c3, rfl⟩ := own_slice HS.out.row
    by_cases hlt : i < es.length
    · obtain ⟨y, hy⟩ : ∃ y, es[i]? = some y := ⟨_, List.getElem?_eq_getElem hlt⟩
      obtain ⟨g, rfl⟩ : ∃ g, A = some ⟨g, 0, none⟩ := by
        rcases H.out.2 with ⟨_, h1⟩ | ⟨g, cap', cur, hv, _⟩
        · omega
        · injection hv with hv
          exact ⟨g, hv⟩
      have hw := pw_own_below H.out HS.out.bel
      have hg := rowE_get es i y hy
      obtain ⟨k0, -⟩ := Gr.own_at hw _ _ hg.1
      obtain ⟨k1, -⟩ := Gr.own_at hw _ _ hg.2.1
      obtain ⟨k2, -⟩ := Gr.own_at hw _ _ hg.2.2
      have htk : es.take (i + 1) = es.take i ++ [y] := by
        rw [List.take_succ_eq_append_getElem hlt, (List.getElem?_eq_some_iff.1 hy).2]
      have hln : (es.take i).length = i := by rw [List.length_take]; omega
      have HTK := Lib.hid htk
      have HS2 := HS
      rw [hln] at HS
      have hrow : wr.ownsRow W.heap.size 67 3 (.slice A3 i c3) i (rowE (es.take i)) := by have := HS2.out.row; rw [hln] at this; exact this
      have HRW := Aside0.mk hrow
      have hs3 : EdS 67 W wr (.slice A3 i c3) (es.take i) := by have := HS2.out; rwa [hln] at this
      have HS3 := Aside0.mk hs3
      clear hs3
      have HLN := Lib.hid hln
      obtain ⟨S0, hS0⟩ : ∃ x, x = mkS y.new := ⟨_, rfl⟩
      rw [← hS0] at k2
      have HS0 := Lib.hid hS0
      rw [hln]
      clear hw hg hy htk hln hrow hS0
      go_wp2_with (at_builtin; go_loud (refine wpList_append_own _ rfl (.tmp 13) (.tmp 21) 36 rfl W.heap.size 67 i0 _ 3 32 Tryz.underlying36 hi hz0 hz1 hz2 rfl (by decide) _ i _ rfl (own_move HRW.out (fun k hk => (Below.heap_alloc _ _ k (by have := own_lt HRW.out k hk; simp; omega)).trans (Below.heap_alloc _ _ k (own_lt HRW.out k hk)))) ⟨wr.heap.size + 1, 0, none⟩ 1 1 [.int .i64 (y.s : Int), .int .i64 (y.e : Int), .string S0] rfl rfl ?h1 ?h2 ?h3 ?h4 ?h5 ?_; (case h1 => have hh := HN.out (wr.alloc (.cells #[.int .i64 (y.s : Int), .int .i64 (y.e : Int), .string S0] 68)) y.s y.e S0; (try simp only [World.size_alloc] at hh); exact hh); (case h2 => intro u hu; simp at hu; rcases hu with rfl | rfl | rfl <;> rfl); (case h3 => unfold maxLen; omega); (case h4 => omega); (case h5 => have := HS2.out.bel.size; simp; omega); intro v1 w1 hown hgr _; rw [HS0.out] at hown; have HP := Aside0.mk (EdS.push HS3.out HLN.out hgr hown); clear hown hgr))
      go_roundw
      case rel => exact ⟨i + 1, by go_num, by omega, ⟨by rw [HTK.out]; exact HP.out⟩⟩
      case measure => simp [intOf]; omega
    · obtain rfl : i = es.length := by omega
      go_wp2_with fail
      go_ret
      have hr := HS.out.row
      rw [List.take_length] at hr
      exact ⟨A3, c3, by rw [List.take_length]; rfl, by rw [List.take_length] at *; exact hr, HS.out.bel⟩
set_option maxRecDepth 100000 in
set_option maxHeartbeats 1000000 in
theorem given_any (W : World) (A : Option Addr) (cap : Nat) (es : List BE) (h : W.ownsRow 0 67 3 (.slice A es.length cap) es.length (rowE es)) (hl : es.length ≤ 1000000) :
    Calls Tryz.prog 24 #[.slice A es.length cap] W fun e w' => ∃ A' c', e = .returned (.slice A' es.length c') ∧ w'.ownsRow W.heap.size 68 3 (.slice A' es.length c') es.length (rowE es) ∧ Go.RowKit.Below W.heap.size W w' := by
  obtain ⟨i0, hi, hz0, hz1, hz2⟩ := info_parts info_edit
  have hnew : ∀ (W1 : World) (a b : Int) (x : ByteArray), ∀ j u, [Value.int .i64 a, .int .i64 b, .string x][j]? = some u → (W1.alloc (.cells #[.int .i64 a, .int .i64 b, .string x] 68)).cell? ((⟨W1.heap.size, 0, none⟩ : Addr).add j) = some u := fun W1 a b x j u hu => by
    rw [add_plain, blk_cell (new_obj W1 _)]
    simpa using hu
  have HN := Aside0.mk hnew
  have H := Aside0.mk h
  have hst : EdS 68 W (W.alloc (.cells #[] 68)) (.slice (some ⟨W.heap.size, 0, none⟩) 0 0) [] := ⟨below_alloc (Below.refl _ _) _, World.ownsRow_lit W #[] 0 (Nat.le_refl _) (by decide) rfl⟩
  have HST := Aside0.mk hst
  clear hnew h hst
  go_enter Tryz.func24, Tryz.ntmps24
  go_wp2_with fail
  go_loopw [3, 9] (fun v3 v9 wr => ∃ i : Nat, v9 = .int .i64 i ∧ i ≤ es.length ∧ Aside0 (EdS 68 W wr v3 (es.take i))) (fun _ v9 _ => es.length - (intOf v9).toNat)
  case atStart => exact ⟨0, rfl, Nat.zero_le _, HST⟩
  case round =>
    obtain ⟨i, rfl, hi1, HS⟩ := hrel
    clear HST
    obtain ⟨A3, c3, rfl⟩ := own_slice HS.out.row
    by_cases hlt : i < es.length
    · obtain ⟨y, hy⟩ : ∃ y, es[i]? = some y := ⟨_, List.getElem?_eq_getElem hlt⟩
      obtain ⟨g, rfl⟩ : ∃ g, A = some ⟨g, 0, none⟩ := by
        rcases H.out.2 with ⟨_, h1⟩ | ⟨g, cap', cur, hv, _⟩
        · omega
        · injection hv with hv
          exact ⟨g, hv⟩
      have hw := pw_own_below H.out HS.out.bel
      have hg := rowE_get es i y hy
      obtain ⟨k0, -⟩ := Gr.own_at hw _ _ hg.1
      obtain ⟨k1, -⟩ := Gr.own_at hw _ _ hg.2.1
      obtain ⟨k2, -⟩ := Gr.own_at hw _ _ hg.2.2
      have htk : es.take (i + 1) = es.take i ++ [y] := by
        rw [List.take_succ_eq_append_getElem hlt, (List.getElem?_eq_some_iff.1 hy).2]
      have hln : (es.take i).length = i := by rw [List.length_take]; omega
      have HTK := Lib.hid htk
      have HS2 := HS
      rw [hln] at HS
      have hrow : wr.ownsRow W.heap.size 68 3 (.slice A3 i c3) i (rowE (es.take i)) := by have := HS2.out.row; rw [hln] at this; exact this
      have HRW := Aside0.mk hrow
      have hs3 : EdS 68 W wr (.slice A3 i c3) (es.take i) := by have := HS2.out; rwa [hln] at this
      have HS3 := Aside0.mk hs3
      clear hs3
      have HLN := Lib.hid hln
      obtain ⟨S0, hS0⟩ : ∃ x, x = mkS y.new := ⟨_, rfl⟩
      rw [← hS0] at k2
      have HS0 := Lib.hid hS0
      rw [hln]
      clear hw hg hy htk hln hrow hS0
      go_wp2_with (at_builtin; go_loud (refine wpList_append_own _ rfl (.tmp 13) (.tmp 21) 53 rfl W.heap.size 68 i0 _ 3 32 Tryz.underlying53 hi hz0 hz1 hz2 rfl (by decide) _ i _ rfl (own_move HRW.out (fun k hk => (Below.heap_alloc _ _ k (by have := own_lt HRW.out k hk; simp; omega)).trans (Below.heap_alloc _ _ k (own_lt HRW.out k hk)))) ⟨wr.heap.size + 1, 0, none⟩ 1 1 [.int .i64 (y.s : Int), .int .i64 (y.e : Int), .string S0] rfl rfl ?h1 ?h2 ?h3 ?h4 ?h5 ?_; (case h1 => have hh := HN.out (wr.alloc (.cells #[.int .i64 (y.s : Int), .int .i64 (y.e : Int), .string S0] 67)) y.s y.e S0; (try simp only [World.size_alloc] at hh); exact hh); (case h2 => intro u hu; simp at hu; rcases hu with rfl | rfl | rfl <;> rfl); (case h3 => unfold maxLen; omega); (case h4 => omega); (case h5 => have := HS2.out.bel.size; simp; omega); intro v1 w1 hown hgr _; rw [HS0.out] at hown; have HP := Aside0.mk (EdS.push HS3.out HLN.out hgr hown); clear hown hgr))
      go_roundw
      case rel => exact ⟨i + 1, by go_num, by omega, ⟨by rw [HTK.out]; exact HP.out⟩⟩
      case measure => simp [intOf]; omega
    · obtain rfl : i = es.length := by omega
      go_wp2_with fail
      go_ret
      have hr := HS.out.row
      rw [List.take_length] at hr
      exact ⟨A3, c3, by rw [List.take_length]; rfl, by rw [List.take_length] at *; exact hr, HS.out.bel⟩
theorem context_ok (n : Int) (hn : -9223372036854775808 ≤ n ∧ n ≤ 9223372036854775807) : ∃ c : Nat, 1 ≤ c ∧ c ≤ 8 ∧ ∀ W, Calls Tryz.prog 16 #[.int .i64 n] W fun e w' => e = .returned (.int .i64 (c : Int)) ∧ W = w' := by
  have h1 : -8 < n.tmod 8 ∧ n.tmod 8 < 8 := by
    have a := Int.tmod_lt_of_pos n (show (0 : Int) < 8 by omega)
    have b := Int.lt_tmod_of_pos n (show (0 : Int) < 8 by omega)
    omega
  refine ⟨(1 + n.tmod 8 % 8).toNat, by omega, by omega, fun W => ?_⟩
  rw [show (((1 + n.tmod 8 % 8).toNat : Nat) : Int) = 1 + n.tmod 8 % 8 by omega]
  go_enter Tryz.func16, Tryz.ntmps16
  go_wp2
  go_ret
  exact ⟨rfl, rfl⟩
set_option maxRecDepth 100000 in
theorem implLines_any (W : World) (a b : ByteArray) (hab : a.size + b.size ≤ 1000000) :
    Calls Tryz.prog 15 #[.string a, .string b] W fun e w' => ∃ A cap es, e = .returned (.slice A es.length cap) ∧ Difs a b es ∧ w'.ownsRow W.heap.size 67 3 (.slice A es.length cap) es.length (rowE es) ∧ Go.RowKit.Below W.heap.size W w' := by
  have hl := (lines_any W a b (by omega) (by omega)).mono fun e w' h => lines_difs hab h
  go_enter Tryz.func15, Tryz.ntmps15
  go_wp2_with (first
    | (go_at_call 26; go_loud (refine hl.mono ?_; rintro e w1 ⟨A1, c1, es, rfl, hd, ho, hb1⟩; have HD := Aside0.mk hd; have HOW := Aside0.mk (own_lower ho (Nat.zero_le _)); have HB1 := Aside0.mk hb1; clear hd ho hb1))
    | (go_at_call 25; go_loud (refine (told_any w1 A1 c1 es HOW.out HD.out.eds.l6).mono ?_; rintro e w2 ⟨A2, c2, rfl, ho2, hb2⟩; have HO2 := Aside0.mk ho2; have HB2 := Aside0.mk hb2; clear ho2 hb2)))
  go_ret
  exact ⟨A2, c2, es, rfl, HD.out, Gr.own_base_mono HO2.out HB1.out.size, HB1.out.trans (HB2.out.mono HB1.out.size)⟩
set_option maxRecDepth 100000 in
theorem implTo_any (W : World) (fa fb a b : ByteArray) (A : Option Addr) (cap : Nat) (es : List BE) (ctx : Nat) (hctx : 1 ≤ ctx) (hctx2 : ctx ≤ 8) (hd : Difs a b es) (hfa : fa.size ≤ 1000000) (hfb : fb.size ≤ 1000000) (ht : Tab W) (ho : W.ownsRow 0 67 3 (.slice A es.length cap) es.length (rowE es)) :
    Calls Tryz.prog 14 #[.string fa, .string fb, .string a, .slice A es.length cap, .int .i64 ctx] W fun e w' => ∃ U, e = .returned (.tuple #[.string U, .bool true]) ∧ formU fa fb a.data.toList ctx es U ∧ Go.RowKit.Below W.heap.size W w' := by
  have hg := given_any W A cap es ho hd.eds.l6
  have hto : ∀ W1 A1 c1, Go.RowKit.Below W.heap.size W W1 → W1.ownsRow 0 68 3 (.slice A1 es.length c1) es.length (rowE es) → Calls Tryz.prog 23 #[(.string fa), (.string fb), .string a, .slice A1 es.length c1, .int .i64 ctx] W1 fun e w' => ToPost W1 fa fb a.data.toList ctx es .nilIface e w' := fun W1 A1 c1 hb ho =>
    toU_calls W1 fa fb a A1 c1 es es ctx hctx hctx2 hd.eds hfa hfb (ht.stay hb (Nat.le_refl _)) ho
  have HTO := Aside0.mk hto
  clear hto ht ho hd
  go_enter Tryz.func14, Tryz.ntmps14
  go_wp2_with (first
    | (go_at_call 24; go_loud (refine hg.mono ?_; rintro e w1 ⟨A1, c1, rfl, ho1, hb1⟩; have HOW := Aside0.mk (own_lower ho1 (Nat.zero_le _)); have HB1 := Aside0.mk hb1; clear ho1 hb1))
    | (go_at_call 23; go_loud (refine (HTO.out _ _ _ HB1.out HOW.out).mono ?_; rintro e w2 ⟨U, rfl, hf, hb2⟩; have HF := Aside0.mk hf; have HB2 := Aside0.mk hb2; clear hf hb2)))
  go_quiet (fail)
  go_wp2_with fail
  go_ret2
  exact ⟨U, rfl, HF.out, pw_below_drewN (HB1.out.trans (HB2.out.mono HB1.out.size)) _⟩
end Go.Proofs.YtonajgipkpnpoaaGreatDoor.Un
namespace Go.Proofs.YtonajgipkpnpoaaGreatDoor.Un
open Go.RowKit Go.Sort Go.Sst Go.Proofs.YtonajgipkpnpoaaGreatDoorW.PrintWords Go.Uni
set_option linter.unusedVariables false
set_option maxRecDepth 100000 in
set_option maxHeartbeats 2000000 in
theorem law7 (W : World) (a b : ByteArray) (n : Int) (hn : -9223372036854775808 ≤ n ∧ n ≤ 9223372036854775807) (ht : Tab W) :
    Calls Tryz.prog 5 #[.string a, .string b, .int .i64 n] W (LawPost W) := by
  by_cases h0 : (a.size : Int) > 2147483647
  · clear ht
    go_enter Tryz.func5, Tryz.ntmps5
    go_wp2_with fail
    go_ret
    exact ⟨rfl, Below.refl _ _⟩
  by_cases h1 : (b.size : Int) > 2147483647
  · clear ht
    go_enter Tryz.func5, Tryz.ntmps5
    go_wp2_with fail
    go_ret
    exact ⟨rfl, Below.refl _ _⟩
  have htl := tooLong_any (W.alloc (.cells #[.int .i64 (a.size : Int), .int .i64 (b.size : Int)] 3)) W.heap.size 2 [a.size, b.size] (lit_cells W [a.size, b.size]) (by simp) (by intro n hn; simp at hn; omega)
  have HT := Aside0.mk ht
  clear ht
  obtain ⟨ctx, hc1, hc2, hcx⟩ := context_ok n hn
  have HCX := Aside0.mk hcx
  clear hcx
  go_enter Tryz.func5, Tryz.ntmps5
  go_upto_if 25 with (go_at_call 7; go_loud (refine htl.mono ?_; rintro e w1 ⟨bb, rfl, hbb, rfl⟩; have HBB := Lib.hid hbb; clear hbb))
  have hb1 : Below W.heap.size W (W.alloc (.cells #[.int .i64 (a.size : Int), .int .i64 (b.size : Int)] 3)) := below_alloc (Below.refl _ _) _
  have HB1 := Aside0.mk hb1
  clear hb1 htl
  cases bb with
  | true =>
    go_wp2_with fail
    go_ret
    exact ⟨rfl, HB1.out⟩
  | false =>
    have hsum := HBB.out rfl
    simp only [List.sum_cons, List.sum_nil] at hsum
    clear HBB
    have hun := implLines_any (W.alloc (.cells #[.int .i64 (a.size : Int), .int .i64 (b.size : Int)] 3)) a b (by omega)
    have HLL := Aside0.mk (lines_len a (by omega))
    have hsl := splitL_length_le a.data.toList
    rw [data_length] at hsl
    go_wp2_with (first
      | (go_at_call 15; go_loud (refine hun.mono ?_; rintro e w2 ⟨A2, c2, es, rfl, hd, ho2, hb2⟩; have HD := Aside0.mk hd; have HO2 := Aside0.mk (own_lower ho2 (Nat.zero_le _)); have HB2 := Aside0.mk (HB1.out.trans (hb2.mono HB1.out.size)); clear hd ho2 hb2))
      | (go_at_call 16; go_loud (refine (HCX.out _).mono ?_; rintro e w' ⟨rfl, rfl⟩))
      | (go_at_call 14; go_loud (refine (implTo_any w2 ⟨#[97]⟩ ⟨#[98]⟩ a b A2 c2 es ctx hc1 hc2 HD.out (by decide) (by decide) (HT.out.stay HB2.out (Nat.le_refl _)) HO2.out).mono ?_; rintro e w3 ⟨U, rfl, hU, hb3⟩; have HU := Aside0.mk hU; have HB3 := Aside0.mk (HB2.out.trans (hb3.mono HB2.out.size)); clear hU hb3))
      | (go_at_call 8; go_loud (refine (read_all (ctx := ctx) hc1 HD.out (by decide) (by decide) HU.out _).mono ?_; rintro e w4 ⟨H, ⟨v, L, rfl, hLm, hx, ho, hb4⟩, hHl, har⟩; have HLEN : Hid (L.length ≤ 1000000000) := Lib.hid (by rw [← hLm, List.length_map] at hHl; omega); have HLM := Lib.hid hLm; have HX := Aside0.mk hx; have HOW := Aside0.mk ho; have HAR := Aside0.mk har; have HB4 := Aside0.mk (HB3.out.trans (hb4.mono HB3.out.size)); clear hLm hx ho har hb4 hHl))
      | (go_at_call 12; go_loud (refine (HLL.out _).mono ?_; rintro e w5 ⟨AL, cL, rfl, hb5⟩; have HB5 := Aside0.mk (HB4.out.trans (hb5.mono HB4.out.size)); have HOW5 := Aside0.mk (pw_own_below HOW.out hb5); clear hb5))
      | (go_at_call 11; go_loud (refine (around_any _ _ v L ctx _ hc2 (by omega) HOW5.out HLEN.out HX.out (fun x hx => HAR.out x.h (by rw [← HLM.out]; exact List.mem_map_of_mem hx))).mono ?_; rintro e w6 ⟨rfl, hb6⟩; have HB6 := Aside0.mk (HB5.out.trans (hb6.mono HB5.out.size)); clear hb6)))
    go_ret
    exact ⟨rfl, HB6.out⟩
end Go.Proofs.YtonajgipkpnpoaaGreatDoor.Un
