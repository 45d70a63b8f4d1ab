/- Two sequences of bytes: how much they have in common at their ends. -/
import Derived.Test.YtonajgipkpnpoaaGrLab
import Derived.Test.YtonajgipkpnpoaaMyersC
namespace Go.Proofs.Ytonajgipkpnpoaa.Gr
open Go.RowKit Go.Proofs.YtonajgipkpnpoaaW.PrintWords Go.Myers

/-- the elements of a slice -/
def Rd (W : World) (b o n : Nat) (f : Nat → Int) : Prop := ∀ i, i < n → W.cell? ⟨b, o + i, none⟩ = some (.int .u8 (f i))

theorem Rd.drew {W : World} {b o n : Nat} {f : Nat → Int} (h : Rd W b o n f) (q : Nat) : Rd (W.drewN q) b o n f := fun i hi => by
  have := h i hi
  simpa using this

theorem suf_step {E : Nat → Nat → Bool} {x y i : Nat} (hi : i ≤ suf E x y) (hx : i < x) (hy : i < y) (hE : E (x - 1 - i) (y - 1 - i) = true) : i + 1 ≤ suf E x y := by
  rcases Nat.lt_or_ge i (suf E x y) with h | h
  · omega
  · obtain rfl : i = suf E x y := by omega
    rw [suf_max x y hx hy] at hE; cases hE

theorem suf_stop {E : Nat → Nat → Bool} {x y i : Nat} (hi : i ≤ suf E x y) (h : i = min x y ∨ (E (x - 1 - i) (y - 1 - i) = false)) : suf E x y = i := by
  have hl := suf_le (E := E) x y
  rcases h with h | h
  · omega
  · rcases Nat.lt_or_ge i (suf E x y) with h2 | h2
    · rw [suf_eq x y i h2] at h; cases h
    · omega

set_option maxRecDepth 100000 in
theorem csl (W : World) (b1 o1 n1 c1 b2 o2 n2 c2 : Nat) (f g : Nat → Int) (hf : Rd W b1 o1 n1 f) (hg : Rd W b2 o2 n2 g) (h1 : n1 ≤ 1099511627776) (h2 : n2 ≤ 1099511627776) :
    Calls Try.prog 70 #[.slice (some ⟨b1, o1, none⟩) n1 c1, .slice (some ⟨b2, o2, none⟩) n2 c2] W fun e w' => e = .returned (.int .i64 (suf (fun i j => f i == g j) n1 n2 : Nat)) ∧ ∃ q, w' = W.drewN q := by
  go_enter Try.func70, Try.ntmps70
  go_wp2
  all_goals
    go_loopw [6] (fun v6 wr => ∃ i q : Nat, v6 = .int .i64 i ∧ i ≤ min n1 n2 ∧ Hid (i ≤ suf (fun i j => f i == g j) n1 n2) ∧ wr = W.drewN q) (fun v6 _ => n1 - (intOf v6).toNat)
    case atStart => exact ⟨0, 0, rfl, by omega, Lib.hid (Nat.zero_le _), rfl⟩
    case round =>
      obtain ⟨i, q, rfl, hi, HI, rfl⟩ := hrel
      by_cases hlt : i < min n1 n2
      · have hl1 : i < n1 := by omega
        have hl2 : i < n2 := by omega
        have e1 : ((n1 : Int) - 1 - i).toNat = n1 - 1 - i := by omega
        have e2 : ((n2 : Int) - 1 - i).toNat = n2 - 1 - i := by omega
        have c1 := hf (n1 - 1 - i) (by omega)
        have c2 := hg (n2 - 1 - i) (by omega)
        have b1 : (0 : Int) ≤ (n1 : Int) - 1 - i := by omega
        have b2 : (0 : Int) ≤ (n2 : Int) - 1 - i := by omega
        have b3 : (n1 : Int) - 1 - i < n1 := by omega
        have b4 : (n2 : Int) - 1 - i < n2 := by omega
        have HLT := Lib.hid hlt
        cases hE : f (n1 - 1 - i) == g (n2 - 1 - i) with
        | true =>
          have HE := Lib.hid hE
          clear hf hg hi hlt
          go_wp2_with fail
          go_quiet (fail)
          go_wp2
          go_roundw
          case rel => exact ⟨i + 1, _, by go_num, by have := HLT.out; omega, Lib.hid (suf_step HI.out (by omega) (by omega) HE.out), rfl⟩
          case measure => simp [intOf]; omega
        | false =>
          have HE := Lib.hid hE
          clear hf hg hi hlt
          go_wp2_with fail
          go_quiet (fail)
          go_wp2
          go_ret
          exact ⟨by rw [suf_stop HI.out (Or.inr HE.out)]; rfl, _, World.drewN_drewN _ _ _⟩
      · obtain him : i = min n1 n2 := by omega
        have HM := Lib.hid him
        first | (have hd : decide (i < n1) = false := decide_eq_false (by omega)) | (have hd : decide (i < n2) = false := decide_eq_false (by omega))
        clear hf hg him hi hlt
        go_wp2_with fail
        go_quiet (fail)
        go_wp2
        go_ret
        exact ⟨by rw [suf_stop HI.out (Or.inl HM.out)]; rfl, _, World.drewN_drewN _ _ _⟩

set_option maxRecDepth 100000 in
/-- the method, by its payload -/
theorem csl_seqs (W : World) (b1 o1 n1 c1 b2 o2 n2 c2 : Nat) (f g : Nat → Int) (hf : Rd W b1 o1 n1 f) (hg : Rd W b2 o2 n2 g) (h1 : n1 ≤ 1099511627776) (h2 : n2 ≤ 1099511627776) (hc1 : n1 ≤ c1) (hc2 : n2 ≤ c2) (x y : Nat) (hx : x ≤ n1) (hy : y ≤ n2) (hx0 : 0 < x) (hy0 : 0 < y) :
    Calls Try.prog 68 #[.agg #[.slice (some ⟨b1, o1, none⟩) n1 c1, .slice (some ⟨b2, o2, none⟩) n2 c2], .int .i64 0, .int .i64 x, .int .i64 0, .int .i64 y] W fun e w' => e = .returned (.int .i64 (suf (fun i j => f i == g j) x y : Nat)) ∧ ∃ o q, w' = (W.alloc o).drewN q := by
  go_enter Try.func68, Try.ntmps68
  have hfa : ∀ o q, Rd ((W.alloc o).drewN q) b1 o1 x f := fun o q => Rd.drew (fun i hi => Lib.cell?_alloc_some o (hf i (by omega))) q
  have hga : ∀ o q, Rd ((W.alloc o).drewN q) b2 o2 y g := fun o q => Rd.drew (fun i hi => Lib.cell?_alloc_some o (hg i (by omega))) q
  have hx1 : x ≤ 1099511627776 := by omega
  have hy1 : y ≤ 1099511627776 := by omega
  have hxc : x ≤ c1 := by omega
  have hyc : y ≤ c2 := by omega
  clear hf hg
  go_wp2_with fail
  go_quiet ((go_at_call 70; exact Calls.quiet_of (csl _ b1 o1 x x b2 o2 y y f g (hfa _ _) (hga _ _) hx1 hy1)))
  go_wp2
  go_ret
  exact ⟨rfl, _, _, rfl⟩
end Go.Proofs.Ytonajgipkpnpoaa.Gr
