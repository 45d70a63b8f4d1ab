/- Two sequences (bytes): how much they have in common at their ends. Printed by wip/gen/genseq.py. Two sequences (runes): how much they have in common at their ends. Printed by wip/gen/genseq.py. -/
import Derived.Test.YtonajgipkpnpoaaGreatDoorC15
namespace Go.Proofs.YtonajgipkpnpoaaGreatDoor.Gr
open Go.RowKit Go.Proofs.YtonajgipkpnpoaaGreatDoorW.PrintWords Go.Myers
def RdB (W : World) (b o n : Nat) (f : Nat → Int) : Prop := ∀ i, i < n → W.cell? ⟨b, o + i, none⟩ = some (.int .u8 (f i))
theorem RdB.drew {W : World} {b o n : Nat} {f : Nat → Int} (h : RdB W b o n f) (q : Nat) : RdB (W.drewN q) b o n f := fun i hi => by
  have := h i hi
  simpa using this
section
set_option maxRecDepth 100000 in
theorem cslB (W : World) (b1 o1 n1 c1 b2 o2 n2 c2 : Nat) (f g : Nat → Int) (hf : RdB W b1 o1 n1 f) (hg : RdB W b2 o2 n2 g) (h1 : n1 ≤ 1099511627776) (h2 : n2 ≤ 1099511627776) :
    Calls Tryz.prog 180 #[.slice (some ⟨b1, o1, none⟩) n1 c1, .slice (some ⟨b2, o2, none⟩) n2 c2] W fun e w' => e = .returned (.int .i64 (suf (fun i j => f i == g j) n1 n2 : Nat)) ∧ ∃ q, w' = W.drewN q := by
  go_enter Tryz.func180, Tryz.ntmps180
  go_wp2
  all_goals
    go_loopw [6] (fun v6 wr => ∃ i q : Nat, v6 = .int .i64 i ∧ i ≤ min n1 n2 ∧ Hid (i ≤ suf (fun i j => f i == g j) n1 n2) ∧ wr = W.drewN q) (fun v6 _ => n1 - (intOf v6).toNat)
    case atStart => exact ⟨0, 0, rfl, by omega, Lib.hid (Nat.zero_le _), rfl⟩
    case round =>
      obtain ⟨i, q, rfl, hi, HI, rfl⟩ := hrel
      by_cases hlt : i < min n1 n2
      · have hl1 : i < n1 := by omega
        have hl2 : i < n2 := by omega
        have e1 : ((n1 : Int) - 1 - i).toNat = n1 - 1 - i := by omega
        have e2 : ((n2 : Int) - 1 - i).toNat = n2 - 1 - i := by omega
        have c1 := hf (n1 - 1 - i) (by omega)
        have c2 := hg (n2 - 1 - i) (by omega)
        have b1 : (0 : Int) ≤ (n1 : Int) - 1 - i := by omega
        have b2 : (0 : Int) ≤ (n2 : Int) - 1 - i := by omega
        have b3 : (n1 : Int) - 1 - i < n1 := by omega
        have b4 : (n2 : Int) - 1 - i < n2 := by omega
        have HLT := Lib.hid hlt
        cases hE : f (n1 - 1 - i) == g (n2 - 1 - i) with
        | true =>
          have HE := Lib.hid (hE)
          clear hf hg hi hlt
          go_wp2_with fail
          go_quiet (fail)
          go_wp2
          go_roundw
          case rel => exact ⟨i + 1, _, by go_num, by have := HLT.out; omega, Lib.hid (suf_step HI.out (by omega) (by omega) (HE.out)), rfl⟩
          case measure => simp [intOf]; omega
        | false =>
          have HE := Lib.hid (hE)
          clear hf hg hi hlt
          go_wp2_with fail
          go_quiet (fail)
          go_wp2
          go_ret
          exact ⟨by rw [suf_stop HI.out (Or.inr (HE.out))]; rfl, _, World.drewN_drewN _ _ _⟩
      · obtain him : i = min n1 n2 := by omega
        have HM := Lib.hid him
        first | (have hd : decide (i < n1) = false := decide_eq_false (by omega)) | (have hd : decide (i < n2) = false := decide_eq_false (by omega))
        clear hf hg him hi hlt
        go_wp2_with fail
        go_quiet (fail)
        go_wp2
        go_ret
        exact ⟨by rw [suf_stop HI.out (Or.inl HM.out)]; rfl, _, World.drewN_drewN _ _ _⟩
theorem mir_atB {f g : Nat → Int} {n1 n2 i : Nat} {b : Bool} (h1 : i < n1) (h2 : i < n2) (h : (f i == g i) = b) : mir (fun i j => f i == g j) n1 n2 (n1 - 1 - i) (n2 - 1 - i) = b := by
  unfold mir
  show (f (n1 - 1 - (n1 - 1 - i)) == g (n2 - 1 - (n2 - 1 - i))) = b
  rw [show n1 - 1 - (n1 - 1 - i) = i by omega, show n2 - 1 - (n2 - 1 - i) = i by omega]; exact h
set_option maxRecDepth 100000 in
theorem cplB (W : World) (b1 o1 n1 c1 b2 o2 n2 c2 : Nat) (f g : Nat → Int) (hf : RdB W b1 o1 n1 f) (hg : RdB W b2 o2 n2 g) (h1 : n1 ≤ 1099511627776) (h2 : n2 ≤ 1099511627776) :
    Calls Tryz.prog 179 #[.slice (some ⟨b1, o1, none⟩) n1 c1, .slice (some ⟨b2, o2, none⟩) n2 c2] W fun e w' => e = .returned (.int .i64 (suf (mir (fun i j => f i == g j) n1 n2) n1 n2 : Nat)) ∧ ∃ q, w' = W.drewN q := by
  go_enter Tryz.func179, Tryz.ntmps179
  go_wp2
  all_goals
    go_loopw [6] (fun v6 wr => ∃ i q : Nat, v6 = .int .i64 i ∧ i ≤ min n1 n2 ∧ Hid (i ≤ suf (mir (fun i j => f i == g j) n1 n2) n1 n2) ∧ wr = W.drewN q) (fun v6 _ => n1 - (intOf v6).toNat)
    case atStart => exact ⟨0, 0, rfl, by omega, Lib.hid (Nat.zero_le _), rfl⟩
    case round =>
      obtain ⟨i, q, rfl, hi, HI, rfl⟩ := hrel
      by_cases hlt : i < min n1 n2
      · have hl1 : i < n1 := by omega
        have hl2 : i < n2 := by omega
        have c1 := hf i (by omega)
        have c2 := hg i (by omega)
        have HLT := Lib.hid hlt
        cases hE : f i == g i with
        | true =>
          have HE := Lib.hid (hE)
          clear hf hg hi hlt
          go_wp2_with fail
          go_quiet (fail)
          go_wp2
          go_roundw
          case rel => exact ⟨i + 1, _, by go_num, by have := HLT.out; omega, Lib.hid (suf_step HI.out (by omega) (by omega) (mir_atB hl1 hl2 HE.out)), rfl⟩
          case measure => simp [intOf]; omega
        | false =>
          have HE := Lib.hid (hE)
          clear hf hg hi hlt
          go_wp2_with fail
          go_quiet (fail)
          go_wp2
          go_ret
          exact ⟨by rw [suf_stop HI.out (Or.inr (mir_atB hl1 hl2 HE.out))]; rfl, _, World.drewN_drewN _ _ _⟩
      · obtain him : i = min n1 n2 := by omega
        have HM := Lib.hid him
        first | (have hd : decide (i < n1) = false := decide_eq_false (by omega)) | (have hd : decide (i < n2) = false := decide_eq_false (by omega))
        clear hf hg him hi hlt
        go_wp2_with fail
        go_quiet (fail)
        go_wp2
        go_ret
        exact ⟨by rw [suf_stop HI.out (Or.inl HM.out)]; rfl, _, World.drewN_drewN _ _ _⟩
set_option maxRecDepth 100000 in
theorem csl_seqsB (W : World) (b1 o1 n1 c1 b2 o2 n2 c2 : Nat) (f g : Nat → Int) (hf : RdB W b1 o1 n1 f) (hg : RdB W b2 o2 n2 g) (h1 : n1 ≤ 1099511627776) (h2 : n2 ≤ 1099511627776) (hc1 : n1 ≤ c1) (hc2 : n2 ≤ c2) (x y : Nat) (hx : x ≤ n1) (hy : y ≤ n2) (hx0 : 0 < x) (hy0 : 0 < y) :
    Calls Tryz.prog 177 #[.agg #[.slice (some ⟨b1, o1, none⟩) n1 c1, .slice (some ⟨b2, o2, none⟩) n2 c2], .int .i64 0, .int .i64 x, .int .i64 0, .int .i64 y] W fun e w' => e = .returned (.int .i64 (suf (fun i j => f i == g j) x y : Nat)) ∧ ∃ o q, w' = (W.alloc o).drewN q := by
  go_enter Tryz.func177, Tryz.ntmps177
  have hfa : ∀ o q, RdB ((W.alloc o).drewN q) b1 o1 x f := fun o q => RdB.drew (fun i hi => Lib.cell?_alloc_some o (hf i (by omega))) q
  have hga : ∀ o q, RdB ((W.alloc o).drewN q) b2 o2 y g := fun o q => RdB.drew (fun i hi => Lib.cell?_alloc_some o (hg i (by omega))) q
  have hx1 : x ≤ 1099511627776 := by omega
  have hy1 : y ≤ 1099511627776 := by omega
  have hxc : x ≤ c1 := by omega
  have hyc : y ≤ c2 := by omega
  clear hf hg
  go_wp2_with fail
  go_quiet ((go_at_call 180; exact Calls.quiet_of (cslB _ b1 o1 x _ b2 o2 y _ f g (hfa _ _) (hga _ _) hx1 hy1)))
  go_wp2
  go_ret
  exact ⟨rfl, _, _, rfl⟩
set_option maxRecDepth 100000 in
theorem cpl_seqsB (W : World) (b1 o1 n1 c1 b2 o2 n2 c2 : Nat) (f g : Nat → Int) (hf : RdB W b1 o1 n1 f) (hg : RdB W b2 o2 n2 g) (h1 : n1 ≤ 1099511627776) (h2 : n2 ≤ 1099511627776) (hc1 : n1 ≤ c1) (hc2 : n2 ≤ c2) (x y X Y : Nat) (hx : x < X) (hX : X ≤ n1) (hy : y < Y) (hY : Y ≤ n2) :
    Calls Tryz.prog 176 #[.agg #[.slice (some ⟨b1, o1, none⟩) n1 c1, .slice (some ⟨b2, o2, none⟩) n2 c2], .int .i64 x, .int .i64 X, .int .i64 y, .int .i64 Y] W fun e w' => e = .returned (.int .i64 (suf (mir (fun i j => f i == g j) X Y) (X - x) (Y - y) : Nat)) ∧ ∃ o q, w' = (W.alloc o).drewN q := by
  have hcong : suf (mir (fun i j => f i == g j) X Y) (X - x) (Y - y) = suf (mir (fun i j => (fun i => f (x + i)) i == (fun i => g (y + i)) j) (X - x) (Y - y)) (X - x) (Y - y) := suf_congr _ _ (fun i j hi hj => by
    unfold mir
    show (f (X - 1 - i) == g (Y - 1 - j)) = (f (x + (X - x - 1 - i)) == g (y + (Y - y - 1 - j)))
    rw [show x + (X - x - 1 - i) = X - 1 - i by omega, show y + (Y - y - 1 - j) = Y - 1 - j by omega])
  rw [hcong]
  clear hcong
  have hfa : ∀ o q, RdB ((W.alloc o).drewN q) b1 (o1 + x) (X - x) (fun i => f (x + i)) := fun o q => RdB.drew (fun i hi => Lib.cell?_alloc_some o (by rw [Nat.add_assoc]; exact hf (x + i) (by omega))) q
  have hga : ∀ o q, RdB ((W.alloc o).drewN q) b2 (o2 + y) (Y - y) (fun i => g (y + i)) := fun o q => RdB.drew (fun i hi => Lib.cell?_alloc_some o (by rw [Nat.add_assoc]; exact hg (y + i) (by omega))) q
  have hcall : ∀ o q c3 c4, Calls Tryz.prog 179 #[.slice (some ⟨b1, o1 + x, none⟩) (X - x) c3, .slice (some ⟨b2, o2 + y, none⟩) (Y - y) c4] ((W.alloc o).drewN q) _ := fun o q c3 c4 => cplB _ b1 (o1 + x) (X - x) c3 b2 (o2 + y) (Y - y) c4 _ _ (hfa o q) (hga o q) (by omega) (by omega)
  have hXc : X ≤ c1 := by omega
  have hYc : Y ≤ c2 := by omega
  have hx1 : x ≤ X := by omega
  have hy1 : y ≤ Y := by omega
  have hxn : x < c1 := by omega
  have hyn : y < c2 := by omega
  have hX1 : X ≤ 1099511627776 := by omega
  have hY1 : Y ≤ 1099511627776 := by omega
  clear hf hg hfa hga
  go_enter Tryz.func176, Tryz.ntmps176
  go_wp2_with fail
  go_quiet ((go_at_call 179; exact Calls.quiet_of (hcall _ _ _ _)))
  go_wp2
  go_ret
  exact ⟨rfl, _, _, rfl⟩
set_option maxRecDepth 100000 in
theorem len_seqsB (W : World) (A1 A2 : Option Addr) (n1 c1 n2 c2 : Nat) :
    Calls Tryz.prog 178 #[.agg #[.slice A1 n1 c1, .slice A2 n2 c2]] W fun e w' => e = .returned (.tuple #[.int .i64 n1, .int .i64 n2]) ∧ Below W.heap.size W w' := by
  go_enter Tryz.func178, Tryz.ntmps178
  go_wp2_with fail
  go_quiet (fail)
  go_wp2_with fail
  go_ret2
  exact ⟨rfl, by first | exact below_alloc (Below.refl _ _) _ | exact below_drewN (below_alloc (Below.refl _ _) _) _⟩
def RdAB (W : World) (F : Nat → Prop) (A : Option Addr) (n c : Nat) (f : Nat → Int) : Prop := 0 < n → ∃ b o, A = some ⟨b, o, none⟩ ∧ n ≤ c ∧ ¬ F b ∧ b < W.heap.size ∧ RdB W b o n f
theorem RdB.congr {W W' : World} {b o n : Nat} {f : Nat → Int} (h : RdB W b o n f) (he : W'.heap[b]? = W.heap[b]?) : RdB W' b o n f := fun i hi => by
  rw [← h i hi]
  simp [World.cell?, he]
theorem RdAB.step {W W' : World} {F F' : Nat → Prop} {A : Option Addr} {n c : Nat} {f : Nat → Int} (h : RdAB W F A n c f) (hs : Step W W' F F') : RdAB W' F' A n c f := fun hn => by
  obtain ⟨b, o, h1, h2, h3, h4, h5⟩ := h hn
  exact ⟨b, o, h1, h2, fun hf => (hs.new b hf).elim h3 (fun e => by omega), Nat.lt_of_lt_of_le h4 hs.size, h5.congr (hs.keep b h4 h3)⟩
theorem sq_bytes {W : World} {F : Nat → Prop} {A1 A2 : Option Addr} {c1 c2 N M : Nat} {f g : Nat → Int} (ha : RdAB W F A1 N c1 f) (hb : RdAB W F A2 M c2 g) (hN : N ≤ 1099511627776) (hM : M ≤ 1099511627776) :
    SQ W F (.iface 120 (.agg #[.slice A1 N c1, .slice A2 M c2])) (fun i j => f i == g j) N M := by
  refine ⟨_, _, 178, 176, 177, rfl, fun _ => by kernel_rfl, fun _ => by kernel_rfl, fun _ => by kernel_rfl, fun _ _ => by kernel_rfl, fun _ _ => by kernel_rfl, fun _ _ => by kernel_rfl, fun W' => len_seqsB W' A1 A2 N c1 M c2, fun W' F' hs x y X Y hx hX hy hY => ?_, fun W' F' hs x y hx hX hy hY => ?_, hN, hM⟩
  · obtain ⟨b1, o1, rfl, hc1, _, _, h1⟩ := ha.step hs (by omega)
    obtain ⟨b2, o2, rfl, hc2, _, _, h2⟩ := hb.step hs (by omega)
    exact cpl_seqsB W' b1 o1 N c1 b2 o2 M c2 f g h1 h2 hN hM hc1 hc2 x y X Y hx hX hy hY
  · obtain ⟨b1, o1, rfl, hc1, _, _, h1⟩ := ha.step hs (by omega)
    obtain ⟨b2, o2, rfl, hc2, _, _, h2⟩ := hb.step hs (by omega)
    exact csl_seqsB W' b1 o1 N c1 b2 o2 M c2 f g h1 h2 hN hM hc1 hc2 x y hX hY hx hy
end
end Go.Proofs.YtonajgipkpnpoaaGreatDoor.Gr
namespace Go.Proofs.YtonajgipkpnpoaaGreatDoor.Gr
open Go.RowKit Go.Proofs.YtonajgipkpnpoaaGreatDoorW.PrintWords Go.Myers
def RdR (W : World) (b o n : Nat) (f : Nat → Int) : Prop := ∀ i, i < n → W.cell? ⟨b, o + i, none⟩ = some (.int .i32 (f i))
theorem RdR.drew {W : World} {b o n : Nat} {f : Nat → Int} (h : RdR W b o n f) (q : Nat) : RdR (W.drewN q) b o n f := fun i hi => by
  have := h i hi
  simpa using this
section
set_option maxRecDepth 100000 in
theorem cslR (W : World) (b1 o1 n1 c1 b2 o2 n2 c2 : Nat) (f g : Nat → Int) (hf : RdR W b1 o1 n1 f) (hg : RdR W b2 o2 n2 g) (h1 : n1 ≤ 1099511627776) (h2 : n2 ≤ 1099511627776) :
    Calls Tryz.prog 185 #[.slice (some ⟨b1, o1, none⟩) n1 c1, .slice (some ⟨b2, o2, none⟩) n2 c2] W fun e w' => e = .returned (.int .i64 (suf (fun i j => f i == g j) n1 n2 : Nat)) ∧ ∃ q, w' = W.drewN q := by
  go_enter Tryz.func185, Tryz.ntmps185
  go_wp2
  all_goals
    go_loopw [6] (fun v6 wr => ∃ i q : Nat, v6 = .int .i64 i ∧ i ≤ min n1 n2 ∧ Hid (i ≤ suf (fun i j => f i == g j) n1 n2) ∧ wr = W.drewN q) (fun v6 _ => n1 - (intOf v6).toNat)
    case atStart => exact ⟨0, 0, rfl, by omega, Lib.hid (Nat.zero_le _), rfl⟩
    case round =>
      obtain ⟨i, q, rfl, hi, HI, rfl⟩ := hrel
      by_cases hlt : i < min n1 n2
      · have hl1 : i < n1 := by omega
        have hl2 : i < n2 := by omega
        have e1 : ((n1 : Int) - 1 - i).toNat = n1 - 1 - i := by omega
        have e2 : ((n2 : Int) - 1 - i).toNat = n2 - 1 - i := by omega
        have c1 := hf (n1 - 1 - i) (by omega)
        have c2 := hg (n2 - 1 - i) (by omega)
        have b1 : (0 : Int) ≤ (n1 : Int) - 1 - i := by omega
        have b2 : (0 : Int) ≤ (n2 : Int) - 1 - i := by omega
        have b3 : (n1 : Int) - 1 - i < n1 := by omega
        have b4 : (n2 : Int) - 1 - i < n2 := by omega
        have HLT := Lib.hid hlt
        cases hE : f (n1 - 1 - i) == g (n2 - 1 - i) with
        | true =>
          have HE := Lib.hid (hE)
          clear hf hg hi hlt
          go_wp2_with fail
          go_quiet (fail)
          go_wp2
          go_roundw
          case rel => exact ⟨i + 1, _, by go_num, by have := HLT.out; omega, Lib.hid (suf_step HI.out (by omega) (by omega) (HE.out)), rfl⟩
          case measure => simp [intOf]; omega
        | false =>
          have HE := Lib.hid (hE)
          clear hf hg hi hlt
          go_wp2_with fail
          go_quiet (fail)
          go_wp2
          go_ret
          exact ⟨by rw [suf_stop HI.out (Or.inr (HE.out))]; rfl, _, World.drewN_drewN _ _ _⟩
      · obtain him : i = min n1 n2 := by omega
        have HM := Lib.hid him
        first | (have hd : decide (i < n1) = false := decide_eq_false (by omega)) | (have hd : decide (i < n2) = false := decide_eq_false (by omega))
        clear hf hg him hi hlt
        go_wp2_with fail
        go_quiet (fail)
        go_wp2
        go_ret
        exact ⟨by rw [suf_stop HI.out (Or.inl HM.out)]; rfl, _, World.drewN_drewN _ _ _⟩
theorem mir_atR {f g : Nat → Int} {n1 n2 i : Nat} {b : Bool} (h1 : i < n1) (h2 : i < n2) (h : (f i == g i) = b) : mir (fun i j => f i == g j) n1 n2 (n1 - 1 - i) (n2 - 1 - i) = b := by
  unfold mir
  show (f (n1 - 1 - (n1 - 1 - i)) == g (n2 - 1 - (n2 - 1 - i))) = b
  rw [show n1 - 1 - (n1 - 1 - i) = i by omega, show n2 - 1 - (n2 - 1 - i) = i by omega]; exact h
set_option maxRecDepth 100000 in
theorem cplR (W : World) (b1 o1 n1 c1 b2 o2 n2 c2 : Nat) (f g : Nat → Int) (hf : RdR W b1 o1 n1 f) (hg : RdR W b2 o2 n2 g) (h1 : n1 ≤ 1099511627776) (h2 : n2 ≤ 1099511627776) :
    Calls Tryz.prog 184 #[.slice (some ⟨b1, o1, none⟩) n1 c1, .slice (some ⟨b2, o2, none⟩) n2 c2] W fun e w' => e = .returned (.int .i64 (suf (mir (fun i j => f i == g j) n1 n2) n1 n2 : Nat)) ∧ ∃ q, w' = W.drewN q := by
  go_enter Tryz.func184, Tryz.ntmps184
  go_wp2
  all_goals
    go_loopw [6] (fun v6 wr => ∃ i q : Nat, v6 = .int .i64 i ∧ i ≤ min n1 n2 ∧ Hid (i ≤ suf (mir (fun i j => f i == g j) n1 n2) n1 n2) ∧ wr = W.drewN q) (fun v6 _ => n1 - (intOf v6).toNat)
    case atStart => exact ⟨0, 0, rfl, by omega, Lib.hid (Nat.zero_le _), rfl⟩
    case round =>
      obtain ⟨i, q, rfl, hi, HI, rfl⟩ := hrel
      by_cases hlt : i < min n1 n2
      · have hl1 : i < n1 := by omega
        have hl2 : i < n2 := by omega
        have c1 := hf i (by omega)
        have c2 := hg i (by omega)
        have HLT := Lib.hid hlt
        cases hE : f i == g i with
        | true =>
          have HE := Lib.hid (hE)
          clear hf hg hi hlt
          go_wp2_with fail
          go_quiet (fail)
          go_wp2
          go_roundw
          case rel => exact ⟨i + 1, _, by go_num, by have := HLT.out; omega, Lib.hid (suf_step HI.out (by omega) (by omega) (mir_atR hl1 hl2 HE.out)), rfl⟩
          case measure => simp [intOf]; omega
        | false =>
          have HE := Lib.hid (hE)
          clear hf hg hi hlt
          go_wp2_with fail
          go_quiet (fail)
          go_wp2
          go_ret
          exact ⟨by rw [suf_stop HI.out (Or.inr (mir_atR hl1 hl2 HE.out))]; rfl, _, World.drewN_drewN _ _ _⟩
      · obtain him : i = min n1 n2 := by omega
        have HM := Lib.hid him
        first | (have hd : decide (i < n1) = false := decide_eq_false (by omega)) | (have hd : decide (i < n2) = false := decide_eq_false (by omega))
        clear hf hg him hi hlt
        go_wp2_with fail
        go_quiet (fail)
        go_wp2
        go_ret
        exact ⟨by rw [suf_stop HI.out (Or.inl HM.out)]; rfl, _, World.drewN_drewN _ _ _⟩
set_option maxRecDepth 100000 in
theorem csl_seqsR (W : World) (b1 o1 n1 c1 b2 o2 n2 c2 : Nat) (f g : Nat → Int) (hf : RdR W b1 o1 n1 f) (hg : RdR W b2 o2 n2 g) (h1 : n1 ≤ 1099511627776) (h2 : n2 ≤ 1099511627776) (hc1 : n1 ≤ c1) (hc2 : n2 ≤ c2) (x y : Nat) (hx : x ≤ n1) (hy : y ≤ n2) (hx0 : 0 < x) (hy0 : 0 < y) :
    Calls Tryz.prog 182 #[.agg #[.slice (some ⟨b1, o1, none⟩) n1 c1, .slice (some ⟨b2, o2, none⟩) n2 c2], .int .i64 0, .int .i64 x, .int .i64 0, .int .i64 y] W fun e w' => e = .returned (.int .i64 (suf (fun i j => f i == g j) x y : Nat)) ∧ ∃ o q, w' = (W.alloc o).drewN q := by
  go_enter Tryz.func182, Tryz.ntmps182
  have hfa : ∀ o q, RdR ((W.alloc o).drewN q) b1 o1 x f := fun o q => RdR.drew (fun i hi => Lib.cell?_alloc_some o (hf i (by omega))) q
  have hga : ∀ o q, RdR ((W.alloc o).drewN q) b2 o2 y g := fun o q => RdR.drew (fun i hi => Lib.cell?_alloc_some o (hg i (by omega))) q
  have hx1 : x ≤ 1099511627776 := by omega
  have hy1 : y ≤ 1099511627776 := by omega
  have hxc : x ≤ c1 := by omega
  have hyc : y ≤ c2 := by omega
  clear hf hg
  go_wp2_with fail
  go_quiet ((go_at_call 185; exact Calls.quiet_of (cslR _ b1 o1 x _ b2 o2 y _ f g (hfa _ _) (hga _ _) hx1 hy1)))
  go_wp2
  go_ret
  exact ⟨rfl, _, _, rfl⟩
set_option maxRecDepth 100000 in
theorem cpl_seqsR (W : World) (b1 o1 n1 c1 b2 o2 n2 c2 : Nat) (f g : Nat → Int) (hf : RdR W b1 o1 n1 f) (hg : RdR W b2 o2 n2 g) (h1 : n1 ≤ 1099511627776) (h2 : n2 ≤ 1099511627776) (hc1 : n1 ≤ c1) (hc2 : n2 ≤ c2) (x y X Y : Nat) (hx : x < X) (hX : X ≤ n1) (hy : y < Y) (hY : Y ≤ n2) :
    Calls Tryz.prog 181 #[.agg #[.slice (some ⟨b1, o1, none⟩) n1 c1, .slice (some ⟨b2, o2, none⟩) n2 c2], .int .i64 x, .int .i64 X, .int .i64 y, .int .i64 Y] W fun e w' => e = .returned (.int .i64 (suf (mir (fun i j => f i == g j) X Y) (X - x) (Y - y) : Nat)) ∧ ∃ o q, w' = (W.alloc o).drewN q := by
  have hcong : suf (mir (fun i j => f i == g j) X Y) (X - x) (Y - y) = suf (mir (fun i j => (fun i => f (x + i)) i == (fun i => g (y + i)) j) (X - x) (Y - y)) (X - x) (Y - y) := suf_congr _ _ (fun i j hi hj => by
    unfold mir
    show (f (X - 1 - i) == g (Y - 1 - j)) = (f (x + (X - x - 1 - i)) == g (y + (Y - y - 1 - j)))
    rw [show x + (X - x - 1 - i) = X - 1 - i by omega, show y + (Y - y - 1 - j) = Y - 1 - j by omega])
  rw [hcong]
  clear hcong
  have hfa : ∀ o q, RdR ((W.alloc o).drewN q) b1 (o1 + x) (X - x) (fun i => f (x + i)) := fun o q => RdR.drew (fun i hi => Lib.cell?_alloc_some o (by rw [Nat.add_assoc]; exact hf (x + i) (by omega))) q
  have hga : ∀ o q, RdR ((W.alloc o).drewN q) b2 (o2 + y) (Y - y) (fun i => g (y + i)) := fun o q => RdR.drew (fun i hi => Lib.cell?_alloc_some o (by rw [Nat.add_assoc]; exact hg (y + i) (by omega))) q
  have hcall : ∀ o q c3 c4, Calls Tryz.prog 184 #[.slice (some ⟨b1, o1 + x, none⟩) (X - x) c3, .slice (some ⟨b2, o2 + y, none⟩) (Y - y) c4] ((W.alloc o).drewN q) _ := fun o q c3 c4 => cplR _ b1 (o1 + x) (X - x) c3 b2 (o2 + y) (Y - y) c4 _ _ (hfa o q) (hga o q) (by omega) (by omega)
  have hXc : X ≤ c1 := by omega
  have hYc : Y ≤ c2 := by omega
  have hx1 : x ≤ X := by omega
  have hy1 : y ≤ Y := by omega
  have hxn : x < c1 := by omega
  have hyn : y < c2 := by omega
  have hX1 : X ≤ 1099511627776 := by omega
  have hY1 : Y ≤ 1099511627776 := by omega
  clear hf hg hfa hga
  go_enter Tryz.func181, Tryz.ntmps181
  go_wp2_with fail
  go_quiet ((go_at_call 184; exact Calls.quiet_of (hcall _ _ _ _)))
  go_wp2
  go_ret
  exact ⟨rfl, _, _, rfl⟩
set_option maxRecDepth 100000 in
theorem len_seqsR (W : World) (A1 A2 : Option Addr) (n1 c1 n2 c2 : Nat) :
    Calls Tryz.prog 183 #[.agg #[.slice A1 n1 c1, .slice A2 n2 c2]] W fun e w' => e = .returned (.tuple #[.int .i64 n1, .int .i64 n2]) ∧ Below W.heap.size W w' := by
  go_enter Tryz.func183, Tryz.ntmps183
  go_wp2_with fail
  go_quiet (fail)
  go_wp2_with fail
  go_ret2
  exact ⟨rfl, by first | exact below_alloc (Below.refl _ _) _ | exact below_drewN (below_alloc (Below.refl _ _) _) _⟩
def RdAR (W : World) (F : Nat → Prop) (A : Option Addr) (n c : Nat) (f : Nat → Int) : Prop := 0 < n → ∃ b o, A = some ⟨b, o, none⟩ ∧ n ≤ c ∧ ¬ F b ∧ b < W.heap.size ∧ RdR W b o n f
theorem RdR.congr {W W' : World} {b o n : Nat} {f : Nat → Int} (h : RdR W b o n f) (he : W'.heap[b]? = W.heap[b]?) : RdR W' b o n f := fun i hi => by
  rw [← h i hi]
  simp [World.cell?, he]
theorem RdAR.step {W W' : World} {F F' : Nat → Prop} {A : Option Addr} {n c : Nat} {f : Nat → Int} (h : RdAR W F A n c f) (hs : Step W W' F F') : RdAR W' F' A n c f := fun hn => by
  obtain ⟨b, o, h1, h2, h3, h4, h5⟩ := h hn
  exact ⟨b, o, h1, h2, fun hf => (hs.new b hf).elim h3 (fun e => by omega), Nat.lt_of_lt_of_le h4 hs.size, h5.congr (hs.keep b h4 h3)⟩
theorem sq_runes {W : World} {F : Nat → Prop} {A1 A2 : Option Addr} {c1 c2 N M : Nat} {f g : Nat → Int} (ha : RdAR W F A1 N c1 f) (hb : RdAR W F A2 M c2 g) (hN : N ≤ 1099511627776) (hM : M ≤ 1099511627776) :
    SQ W F (.iface 122 (.agg #[.slice A1 N c1, .slice A2 M c2])) (fun i j => f i == g j) N M := by
  refine ⟨_, _, 183, 181, 182, rfl, fun _ => by kernel_rfl, fun _ => by kernel_rfl, fun _ => by kernel_rfl, fun _ _ => by kernel_rfl, fun _ _ => by kernel_rfl, fun _ _ => by kernel_rfl, fun W' => len_seqsR W' A1 A2 N c1 M c2, fun W' F' hs x y X Y hx hX hy hY => ?_, fun W' F' hs x y hx hX hy hY => ?_, hN, hM⟩
  · obtain ⟨b1, o1, rfl, hc1, _, _, h1⟩ := ha.step hs (by omega)
    obtain ⟨b2, o2, rfl, hc2, _, _, h2⟩ := hb.step hs (by omega)
    exact cpl_seqsR W' b1 o1 N c1 b2 o2 M c2 f g h1 h2 hN hM hc1 hc2 x y X Y hx hX hy hY
  · obtain ⟨b1, o1, rfl, hc1, _, _, h1⟩ := ha.step hs (by omega)
    obtain ⟨b2, o2, rfl, hc2, _, _, h2⟩ := hb.step hs (by omega)
    exact csl_seqsR W' b1 o1 N c1 b2 o2 M c2 f g h1 h2 hN hM hc1 hc2 x y hX hY hx hy
end
end Go.Proofs.YtonajgipkpnpoaaGreatDoor.Gr
