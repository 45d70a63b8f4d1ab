/- Printed by the kit's print; these sections cut out by wip/gen/cutfn.py. -/
import Derived.Test.YtonajgipkpnpoaaGreatDoorC10
import Derived.Test.YtonajgipkpnpoaaGreatDoorC34
namespace Go.Proofs.YtonajgipkpnpoaaGreatDoor.PWfN
open Go.Proofs.YtonajgipkpnpoaaGreatDoor.PFnToUnifiedOfStrings
open Go.RowKit Go.Proofs.YtonajgipkpnpoaaGreatDoorW.PrintWords Go.Proofs.YtonajgipkpnpoaaGreatDoorW.PrintLast Go.Proofs.YtonajgipkpnpoaaGreatDoorW.PrintMore
set_option linter.unusedVariables false
set_option linter.unusedSimpArgs false
mutual
def spec_RuneSize.j0 : Nat → ByteArray → Int → Bool → Option (Int)
  | 0, _, _, _ => none
  | k + 1, x0, x1, x17 => if x17 = true then (some 0) else (if 0 ≤ x1 then (if x1 < (x0.size : Int) then (if (wrap64 (bt x0 x1)) < 128 then (some 1) else (if (wrap64 (bt x0 x1)) ≥ 194 then (spec_RuneSize.j1 k x0 x1 (wrap64 (bt x0 x1)) (decide ((wrap64 (bt x0 x1)) < 224))) else (spec_RuneSize.j1 k x0 x1 (wrap64 (bt x0 x1)) false))) else (none)) else (none))
def spec_RuneSize.j3 : Nat → ByteArray → Int → Int → Int → Int → Option (Int)
  | 0, _, _, _, _, _ => none
  | k + 1, x0, x1, x5, x6, x7 => if (wrap64 (x1 + x6)) > (x0.size : Int) then (some 0) else (spec_RuneSize.l0 k x0 x1 x5 x6 x7 1)
def spec_RuneSize.l0 : Nat → ByteArray → Int → Int → Int → Int → Int → Option (Int)
  | 0, _, _, _, _, _, _ => none
  | k + 1, x0, x1, x5, x6, x7, x8 => if x8 < x6 then (if 0 ≤ (wrap64 (x1 + x8)) then (if (wrap64 (x1 + x8)) < (x0.size : Int) then (if (wrap64 (bt x0 (wrap64 (x1 + x8)))) < 128 then (some 0) else (if (wrap64 (bt x0 (wrap64 (x1 + x8)))) > 191 then (some 0) else (spec_RuneSize.l0 k x0 x1 (Go.bits .or .i64 (wrap64 (x5 * 64)) (Go.bits .and .i64 (wrap64 (bt x0 (wrap64 (x1 + x8)))) 63)) x6 x7 (wrap64 (x8 + 1))))) else (none)) else (none)) else (if x5 < x7 then (some 0) else (if x5 > 1114111 then (some 0) else (if x5 ≥ 55296 then (if x5 < 57344 then (some 0) else (some x6)) else (some x6))))
def spec_RuneSize.j1 : Nat → ByteArray → Int → Int → Bool → Option (Int)
  | 0, _, _, _, _ => none
  | k + 1, x0, x1, x5, x25 => if x25 = true then (spec_RuneSize.j3 k x0 x1 (Go.bits .and .i64 x5 31) 2 128) else (if x5 ≥ 224 then (spec_RuneSize.j2 k x0 x1 x5 (decide (x5 < 240))) else (spec_RuneSize.j2 k x0 x1 x5 false))
def spec_RuneSize.j2 : Nat → ByteArray → Int → Int → Bool → Option (Int)
  | 0, _, _, _, _ => none
  | k + 1, x0, x1, x5, x34 => if x34 = true then (spec_RuneSize.j3 k x0 x1 (Go.bits .and .i64 x5 15) 3 2048) else (if x5 ≥ 240 then (if x5 < 245 then (spec_RuneSize.j3 k x0 x1 (Go.bits .and .i64 x5 7) 4 65536) else (some 0)) else (some 0))
end
def spec_RuneSize.f (k : Nat) (a0 : ByteArray) (a1 : Int) : Option (Int) := if a1 < 0 then (spec_RuneSize.j0 k a0 a1 true) else (spec_RuneSize.j0 k a0 a1 (decide (a1 ≥ (a0.size : Int))))
set_option maxHeartbeats 8000000 in
set_option maxRecDepth 100000 in
theorem spec_RuneSize.calls (k : Nat) (a0 : ByteArray) (a1 : Int) (r : Int) (w : World) (h : spec_RuneSize.f k a0 a1 = some r) :
    Calls Tryz.prog 27 #[.string a0, .int .i64 a1] w fun e w' => e = .returned (.int .i64 r) ∧ Drawn0 w w' := by
  have H : (if a1 < 0 then (spec_RuneSize.j0 k a0 a1 true) else (spec_RuneSize.j0 k a0 a1 (decide (a1 ≥ (a0.size : Int))))) = some r := h
  clear h
  have HC3 := Aside0.mk H
  clear H
  go_enter Tryz.func27, Tryz.ntmps27
  go_upto_region 1 with (fail)
  go_cut [17] (fun v17 wc => ∃ (kq : Nat) (x17_2 : Bool), v17 = .bool x17_2 ∧ Aside0 (spec_RuneSize.j0 kq a0 a1 x17_2 = some r) ∧ Aside0 (kq ≤ k) ∧ Drawn0 w wc)
  case first =>
    have H := HC3.out
    clear HC3
    by_cases c4 : a1 < 0
    · rw [if_pos c4] at H
      have c4b0 : decide (a1 < 0) = true := decide_eq_true c4
      clear c4
      (first | rw [c4b0] | (simp only [i64_w, i32_w]; rw [c4b0]) | skip)
      have H' := Aside0.mk H
      clear H
      go_wp2
      go_meet
      case rel => exact ⟨_, (true), (by first | rfl | (simp; done) | (simp [*]; done)), H', ⟨by first | omega | exact Nat.le_refl _⟩, by repeat (first | exact Drawn0.refl _ | apply Drawn0.step)⟩
    · rw [if_neg c4] at H
      have c4b0 : decide (a1 < 0) = false := decide_eq_false c4
      clear c4
      (first | rw [c4b0] | (simp only [i64_w, i32_w]; rw [c4b0]) | skip)
      have H' := Aside0.mk H
      clear H
      go_wp2
      go_meet
      case rel => exact ⟨_, (decide (a1 ≥ (a0.size : Int))), (by first | rfl | (simp; done) | (simp [*]; done)), H', ⟨by first | omega | exact Nat.le_refl _⟩, by repeat (first | exact Drawn0.refl _ | apply Drawn0.step)⟩
  case rest =>
    clear HC3
    try clear c2
    try clear p2
    try clear c4
    try clear c4b0
    obtain ⟨kq, x17_2, rfl, HA, HJ2, ⟨mc2, rfl⟩⟩ := hcut
    cases kq with
    | zero => exact absurd HA.out (by simp [spec_RuneSize.j0])
    | succ kj2 =>
      have H := HA.out
      clear HA
      simp only [spec_RuneSize.j0] at H
      by_cases c5 : x17_2 = true
      · subst c5
        have H1 : (some 0) = some r := by rw [if_pos rfl] at H; exact H
        clear H
        have H := H1
        clear H1
        obtain rfl := Option.some.inj H
        go_wp2
        go_ret
        exact ⟨by first | rfl | (simp; done) | (simp [*]; done), by repeat (first | exact Drawn0.refl _ | apply Drawn0.step)⟩
      · replace c5 := Bool.eq_false_iff.mpr c5
        subst c5
        have H1 : (if 0 ≤ a1 then (if a1 < (a0.size : Int) then (if (wrap64 (bt a0 a1)) < 128 then (some 1) else (if (wrap64 (bt a0 a1)) ≥ 194 then (spec_RuneSize.j1 kj2 a0 a1 (wrap64 (bt a0 a1)) (decide ((wrap64 (bt a0 a1)) < 224))) else (spec_RuneSize.j1 kj2 a0 a1 (wrap64 (bt a0 a1)) false))) else (none)) else (none)) = some r := by rw [if_neg (show ¬ (false = true) by decide)] at H; exact H
        clear H
        have H := H1
        clear H1
        by_cases c6 : 0 ≤ a1
        · rw [if_pos c6] at H
          have c6b0 : decide (0 ≤ a1) = true := decide_eq_true c6
          clear c6
          by_cases c7 : a1 < (a0.size : Int)
          · rw [if_pos c7] at H
            have c7b0 : decide (a1 < (a0.size : Int)) = true := decide_eq_true c7
            clear c7
            have HC9 := Aside0.mk H
            clear H
            have p8 : 0 ≤ (a1 : Int) := of_decide_eq_true (by first | (with_reducible assumption) | assumption)
            have q8 : a1 < (a0.size : Int) := of_decide_eq_true (by first | (with_reducible assumption) | assumption)
            have hx8 := bt_at a0 a1
            replace p8 := eq_true p8
            replace q8 := eq_true q8
            go_upto_block 0 with (fail)
            go_cut [5, 6, 7] (fun v5 v6 v7 wc => ∃ (kq : Nat) (x5_8 : Int) (x6_8 : Int) (x7_8 : Int), v5 = .int .i64 x5_8 ∧ v6 = .int .i64 x6_8 ∧ v7 = .int .i64 x7_8 ∧ Aside0 (spec_RuneSize.j3 kq a0 a1 x5_8 x6_8 x7_8 = some r) ∧ Aside0 (kq ≤ kj2) ∧ Drawn0 w wc)
            case first =>
              have H := HC9.out
              clear HC9
              by_cases c10 : (wrap64 (bt a0 a1)) < 128
              · rw [if_pos c10] at H
                have c10b0 : decide ((wrap64 (bt a0 a1)) < 128) = true := decide_eq_true c10
                clear c10
                (first | rw [c10b0] | (simp only [i64_w, i32_w]; rw [c10b0]) | skip)
                obtain rfl := Option.some.inj H
                go_wp2
                go_ret
                exact ⟨by first | rfl | (simp; done) | (simp [*]; done), by repeat (first | exact Drawn0.refl _ | apply Drawn0.step)⟩
              · rw [if_neg c10] at H
                have c10b0 : decide ((wrap64 (bt a0 a1)) < 128) = false := decide_eq_false c10
                clear c10
                (first | rw [c10b0] | (simp only [i64_w, i32_w]; rw [c10b0]) | skip)
                have HC11 := Aside0.mk H
                clear H
                go_upto_region 7 with (fail)
                go_cut [25] (fun v25 wc => ∃ (kq : Nat) (x25_10 : Bool), v25 = .bool x25_10 ∧ Aside0 (spec_RuneSize.j1 kq a0 a1 (wrap64 (bt a0 a1)) x25_10 = some r) ∧ Aside0 (kq ≤ kj2) ∧ Drawn0 w wc)
                case first =>
                  have H := HC11.out
                  clear HC11
                  by_cases c12 : (wrap64 (bt a0 a1)) ≥ 194
                  · rw [if_pos c12] at H
                    have c12b0 : decide (194 ≤ (wrap64 (bt a0 a1))) = true := decide_eq_true c12
                    clear c12
                    (first | rw [c12b0] | (simp only [i64_w, i32_w]; rw [c12b0]) | skip)
                    have H' := Aside0.mk H
                    clear H
                    go_wp2
                    go_meet
                    case rel => exact ⟨_, (decide ((wrap64 (bt a0 a1)) < 224)), (by first | rfl | (simp; done) | (simp [*]; done)), H', ⟨by have := HJ2.out; first | omega | exact Nat.le_refl _⟩, by repeat (first | exact Drawn0.refl _ | apply Drawn0.step)⟩
                  · rw [if_neg c12] at H
                    have c12b0 : decide (194 ≤ (wrap64 (bt a0 a1))) = false := decide_eq_false c12
                    clear c12
                    (first | rw [c12b0] | (simp only [i64_w, i32_w]; rw [c12b0]) | skip)
                    have H' := Aside0.mk H
                    clear H
                    go_wp2
                    go_meet
                    case rel => exact ⟨_, (false), (by first | rfl | (simp; done) | (simp [*]; done)), H', ⟨by have := HJ2.out; first | omega | exact Nat.le_refl _⟩, by repeat (first | exact Drawn0.refl _ | apply Drawn0.step)⟩
                case rest =>
                  clear HC11
                  try clear c1
                  try clear c2
                  try clear p2
                  try clear c4
                  try clear c4b0
                  try clear c5
                  try clear c6
                  try clear c6b0
                  try clear p6
                  try clear c7
                  try clear c7b0
                  try clear p8
                  try clear q8
                  try clear hx8
                  try clear c10
                  try clear c10b0
                  try clear c12
                  try clear c12b0
                  try clear p2
                  try clear p8
                  try clear q8
                  obtain ⟨kq, x25_10, rfl, HA, HJ10, ⟨mc10, rfl⟩⟩ := hcut
                  cases kq with
                  | zero => exact absurd HA.out (by simp [spec_RuneSize.j1])
                  | succ kj10 =>
                    have H := HA.out
                    clear HA
                    simp only [spec_RuneSize.j1] at H
                    by_cases c13 : x25_10 = true
                    · subst c13
                      have H1 : (spec_RuneSize.j3 kj10 a0 a1 (Go.bits .and .i64 (wrap64 (bt a0 a1)) 31) 2 128) = some r := by rw [if_pos rfl] at H; exact H
                      clear H
                      have H := H1
                      clear H1
                      have H' := Aside0.mk H
                      clear H
                      go_wp2
                      go_meet
                      case rel => exact ⟨_, (Go.bits .and .i64 (wrap64 (bt a0 a1)) 31), (2), (128), (by first | rfl | (simp; done) | (simp [*]; done)), (by first | rfl | (simp; done) | (simp [*]; done)), (by first | rfl | (simp; done) | (simp [*]; done)), H', ⟨by have := HJ2.out; have := HJ10.out; first | omega | exact Nat.le_refl _⟩, by repeat (first | exact Drawn0.refl _ | apply Drawn0.step)⟩
                    · replace c13 := Bool.eq_false_iff.mpr c13
                      subst c13
                      have H1 : (if (wrap64 (bt a0 a1)) ≥ 224 then (spec_RuneSize.j2 kj10 a0 a1 (wrap64 (bt a0 a1)) (decide ((wrap64 (bt a0 a1)) < 240))) else (spec_RuneSize.j2 kj10 a0 a1 (wrap64 (bt a0 a1)) false)) = some r := by rw [if_neg (show ¬ (false = true) by decide)] at H; exact H
                      clear H
                      have H := H1
                      clear H1
                      have HC14 := Aside0.mk H
                      clear H
                      go_upto_region 9 with (fail)
                      go_cut [34] (fun v34 wc => ∃ (kq : Nat) (x34_13 : Bool), v34 = .bool x34_13 ∧ Aside0 (spec_RuneSize.j2 kq a0 a1 (wrap64 (bt a0 a1)) x34_13 = some r) ∧ Aside0 (kq ≤ kj10) ∧ Drawn0 w wc)
                      case first =>
                        have H := HC14.out
                        clear HC14
                        by_cases c15 : (wrap64 (bt a0 a1)) ≥ 224
                        · rw [if_pos c15] at H
                          have c15b0 : decide (224 ≤ (wrap64 (bt a0 a1))) = true := decide_eq_true c15
                          clear c15
                          (first | rw [c15b0] | (simp only [i64_w, i32_w]; rw [c15b0]) | skip)
                          have H' := Aside0.mk H
                          clear H
                          go_wp2
                          go_meet
                          case rel => exact ⟨_, (decide ((wrap64 (bt a0 a1)) < 240)), (by first | rfl | (simp; done) | (simp [*]; done)), H', ⟨by have := HJ2.out; have := HJ10.out; first | omega | exact Nat.le_refl _⟩, by repeat (first | exact Drawn0.refl _ | apply Drawn0.step)⟩
                        · rw [if_neg c15] at H
                          have c15b0 : decide (224 ≤ (wrap64 (bt a0 a1))) = false := decide_eq_false c15
                          clear c15
                          (first | rw [c15b0] | (simp only [i64_w, i32_w]; rw [c15b0]) | skip)
                          have H' := Aside0.mk H
                          clear H
                          go_wp2
                          go_meet
                          case rel => exact ⟨_, (false), (by first | rfl | (simp; done) | (simp [*]; done)), H', ⟨by have := HJ2.out; have := HJ10.out; first | omega | exact Nat.le_refl _⟩, by repeat (first | exact Drawn0.refl _ | apply Drawn0.step)⟩
                      case rest =>
                        clear HC14
                        try clear c1
                        try clear c2
                        try clear p2
                        try clear c4
                        try clear c4b0
                        try clear c5
                        try clear c6
                        try clear c6b0
                        try clear p6
                        try clear c7
                        try clear c7b0
                        try clear p8
                        try clear q8
                        try clear hx8
                        try clear c10
                        try clear c10b0
                        try clear c12
                        try clear c12b0
                        try clear c13
                        try clear c15
                        try clear c15b0
                        try clear p2
                        try clear p6
                        try clear p8
                        try clear q8
                        obtain ⟨kq, x34_13, rfl, HA, HJ13, ⟨mc13, rfl⟩⟩ := hcut
                        cases kq with
                        | zero => exact absurd HA.out (by simp [spec_RuneSize.j2])
                        | succ kj13 =>
                          have H := HA.out
                          clear HA
                          simp only [spec_RuneSize.j2] at H
                          by_cases c16 : x34_13 = true
                          · subst c16
                            have H1 : (spec_RuneSize.j3 kj13 a0 a1 (Go.bits .and .i64 (wrap64 (bt a0 a1)) 15) 3 2048) = some r := by rw [if_pos rfl] at H; exact H
                            clear H
                            have H := H1
                            clear H1
                            have H' := Aside0.mk H
                            clear H
                            go_wp2
                            go_meet
                            case rel => exact ⟨_, (Go.bits .and .i64 (wrap64 (bt a0 a1)) 15), (3), (2048), (by first | rfl | (simp; done) | (simp [*]; done)), (by first | rfl | (simp; done) | (simp [*]; done)), (by first | rfl | (simp; done) | (simp [*]; done)), H', ⟨by have := HJ2.out; have := HJ10.out; have := HJ13.out; first | omega | exact Nat.le_refl _⟩, by repeat (first | exact Drawn0.refl _ | apply Drawn0.step)⟩
                          · replace c16 := Bool.eq_false_iff.mpr c16
                            subst c16
                            have H1 : (if (wrap64 (bt a0 a1)) ≥ 240 then (if (wrap64 (bt a0 a1)) < 245 then (spec_RuneSize.j3 kj13 a0 a1 (Go.bits .and .i64 (wrap64 (bt a0 a1)) 7) 4 65536) else (some 0)) else (some 0)) = some r := by rw [if_neg (show ¬ (false = true) by decide)] at H; exact H
                            clear H
                            have H := H1
                            clear H1
                            by_cases c17 : (wrap64 (bt a0 a1)) ≥ 240
                            · rw [if_pos c17] at H
                              have c17b0 : decide (240 ≤ (wrap64 (bt a0 a1))) = true := decide_eq_true c17
                              clear c17
                              by_cases c18 : (wrap64 (bt a0 a1)) < 245
                              · rw [if_pos c18] at H
                                have c18b0 : decide ((wrap64 (bt a0 a1)) < 245) = true := decide_eq_true c18
                                clear c18
                                have H' := Aside0.mk H
                                clear H
                                go_wp2
                                go_meet
                                case rel => exact ⟨_, (Go.bits .and .i64 (wrap64 (bt a0 a1)) 7), (4), (65536), (by first | rfl | (simp; done) | (simp [*]; done)), (by first | rfl | (simp; done) | (simp [*]; done)), (by first | rfl | (simp; done) | (simp [*]; done)), H', ⟨by have := HJ2.out; have := HJ10.out; have := HJ13.out; first | omega | exact Nat.le_refl _⟩, by repeat (first | exact Drawn0.refl _ | apply Drawn0.step)⟩
                              · rw [if_neg c18] at H
                                have c18b0 : decide ((wrap64 (bt a0 a1)) < 245) = false := decide_eq_false c18
                                clear c18
                                obtain rfl := Option.some.inj H
                                go_wp2
                                go_ret
                                exact ⟨by first | rfl | (simp; done) | (simp [*]; done), by repeat (first | exact Drawn0.refl _ | apply Drawn0.step)⟩
                            · rw [if_neg c17] at H
                              have c17b0 : decide (240 ≤ (wrap64 (bt a0 a1))) = false := decide_eq_false c17
                              clear c17
                              obtain rfl := Option.some.inj H
                              go_wp2
                              go_ret
                              exact ⟨by first | rfl | (simp; done) | (simp [*]; done), by repeat (first | exact Drawn0.refl _ | apply Drawn0.step)⟩
            case rest =>
              clear HC9
              try clear c1
              try clear c2
              try clear p2
              try clear c4
              try clear c4b0
              try clear c5
              try clear c6
              try clear c6b0
              try clear p6
              try clear c7
              try clear c7b0
              try clear p8
              try clear q8
              try clear hx8
              try clear c10
              try clear c10b0
              try clear c12
              try clear c12b0
              try clear c13
              try clear c15
              try clear c15b0
              try clear c16
              try clear c17
              try clear c17b0
              try clear c18
              try clear c18b0
              try clear p2
              try clear p6
              try clear p8
              try clear q8
              obtain ⟨kq, x5_8, x6_8, x7_8, rfl, rfl, rfl, HA, HJ8, ⟨mc8, rfl⟩⟩ := hcut
              cases kq with
              | zero => exact absurd HA.out (by simp [spec_RuneSize.j3])
              | succ kj8 =>
                have H := HA.out
                clear HA
                simp only [spec_RuneSize.j3] at H
                by_cases c19 : (wrap64 (a1 + x6_8)) > (a0.size : Int)
                · rw [if_pos c19] at H
                  have c19b0 : decide ((a0.size : Int) < (wrap64 (a1 + x6_8))) = true := decide_eq_true c19
                  clear c19
                  obtain rfl := Option.some.inj H
                  go_wp2
                  go_ret
                  exact ⟨by first | rfl | (simp; done) | (simp [*]; done), by repeat (first | exact Drawn0.refl _ | apply Drawn0.step)⟩
                · rw [if_neg c19] at H
                  have c19b0 : decide ((a0.size : Int) < (wrap64 (a1 + x6_8))) = false := decide_eq_false c19
                  clear c19
                  have H' := Aside0.mk H
                  clear H
                  go_wp2
                  go_loopg [5, 8] kj8 (fun kq v5 v8 w' => ∃ (x5_3 : Int) (x8_3 : Int), v5 = .int .i64 x5_3 ∧ v8 = .int .i64 x8_3 ∧ Aside0 (spec_RuneSize.l0 kq a0 a1 x5_3 x6_8 x7_8 x8_3 = some r) ∧ Aside0 (kq ≤ kj8) ∧ Drawn0 w w')
                  case atStart => exact ⟨(x5_8), (1), (by first | rfl | (simp; done) | (simp [*]; done)), (by first | rfl | (simp; done) | (simp [*]; done)), H', ⟨Nat.le_refl _⟩, by repeat (first | exact Drawn0.refl _ | apply Drawn0.step)⟩
                  case round =>
                    clear H'
                    try clear c1
                    try clear c2
                    try clear p2
                    try clear c4
                    try clear c4b0
                    try clear c5
                    try clear c6
                    try clear c6b0
                    try clear p6
                    try clear c7
                    try clear c7b0
                    try clear c8
                    try clear p8
                    try clear q8
                    try clear hx8
                    try clear c10
                    try clear c10b0
                    try clear c12
                    try clear c12b0
                    try clear c13
                    try clear c15
                    try clear c15b0
                    try clear c16
                    try clear c17
                    try clear c17b0
                    try clear c18
                    try clear c18b0
                    try clear c19
                    try clear c19b0
                    try clear p2
                    try clear p6
                    try clear p8
                    try clear q8
                    obtain ⟨x5_3, x8_3, rfl, rfl, HA, HK3, ⟨m3, rfl⟩⟩ := hrel
                    cases gk with
                    | zero => exact absurd HA.out (by simp [spec_RuneSize.l0])
                    | succ k3 =>
                      have H := HA.out
                      clear HA
                      simp only [spec_RuneSize.l0] at H
                      by_cases c20 : x8_3 < x6_8
                      · rw [if_pos c20] at H
                        have c20b0 : decide (x8_3 < x6_8) = true := decide_eq_true c20
                        clear c20
                        obtain ⟨ji21, hji21⟩ : ∃ j_ : Int, (wrap64 (a1 + x8_3)) = j_ := ⟨_, rfl⟩
                        replace H : (if 0 ≤ (ji21) then (if (ji21) < (a0.size : Int) then (if (wrap64 (bt a0 (ji21))) < 128 then (some 0) else (if (wrap64 (bt a0 (ji21))) > 191 then (some 0) else (spec_RuneSize.l0 k3 a0 a1 (Go.bits .or .i64 (wrap64 (x5_3 * 64)) (Go.bits .and .i64 (wrap64 (bt a0 (ji21))) 63)) x6_8 x7_8 (wrap64 (x8_3 + 1))))) else (none)) else (none)) = some r := by first | (rw [hji21] at H; exact H) | (simp only [hji21] at H ⊢; exact H)
                        have hji21w : (IntKind.i64.wrap (a1 + x8_3)) = ji21 := (i64_w _).trans hji21
                        by_cases c22 : 0 ≤ (ji21)
                        · rw [if_pos c22] at H
                          have c22b0 : decide (0 ≤ (ji21)) = true := decide_eq_true c22
                          clear c22
                          by_cases c23 : (ji21) < (a0.size : Int)
                          · rw [if_pos c23] at H
                            have c23b0 : decide ((ji21) < (a0.size : Int)) = true := decide_eq_true c23
                            clear c23
                            by_cases c25 : (wrap64 (bt a0 (ji21))) < 128
                            · rw [if_pos c25] at H
                              have c25b0 : decide ((wrap64 (bt a0 (ji21))) < 128) = true := decide_eq_true c25
                              clear c25
                              obtain rfl := Option.some.inj H
                              have p24 : 0 ≤ ((ji21) : Int) := of_decide_eq_true (by first | (with_reducible assumption) | assumption)
                              have q24 : (ji21) < (a0.size : Int) := of_decide_eq_true (by first | (with_reducible assumption) | assumption)
                              have hx24 := bt_at a0 (ji21)
                              replace p24 := eq_true p24
                              replace q24 := eq_true q24
                              go_wp2
                              go_ret
                              exact ⟨by first | rfl | (simp; done) | (simp only [← hji21] <;> (first | rfl | simp)) | (simp [*]; done), by repeat (first | exact Drawn0.refl _ | apply Drawn0.step)⟩
                            · rw [if_neg c25] at H
                              have c25b0 : decide ((wrap64 (bt a0 (ji21))) < 128) = false := decide_eq_false c25
                              clear c25
                              by_cases c26 : (wrap64 (bt a0 (ji21))) > 191
                              · rw [if_pos c26] at H
                                have c26b0 : decide (191 < (wrap64 (bt a0 (ji21)))) = true := decide_eq_true c26
                                clear c26
                                obtain rfl := Option.some.inj H
                                have p24 : 0 ≤ ((ji21) : Int) := of_decide_eq_true (by first | (with_reducible assumption) | assumption)
                                have q24 : (ji21) < (a0.size : Int) := of_decide_eq_true (by first | (with_reducible assumption) | assumption)
                                have hx24 := bt_at a0 (ji21)
                                replace p24 := eq_true p24
                                replace q24 := eq_true q24
                                go_wp2
                                go_ret
                                exact ⟨by first | rfl | (simp; done) | (simp only [← hji21] <;> (first | rfl | simp)) | (simp [*]; done), by repeat (first | exact Drawn0.refl _ | apply Drawn0.step)⟩
                              · rw [if_neg c26] at H
                                have c26b0 : decide (191 < (wrap64 (bt a0 (ji21)))) = false := decide_eq_false c26
                                clear c26
                                have H' := Aside0.mk H
                                clear H
                                have p24 : 0 ≤ ((ji21) : Int) := of_decide_eq_true (by first | (with_reducible assumption) | assumption)
                                have q24 : (ji21) < (a0.size : Int) := of_decide_eq_true (by first | (with_reducible assumption) | assumption)
                                have hx24 := bt_at a0 (ji21)
                                replace p24 := eq_true p24
                                replace q24 := eq_true q24
                                go_wp2
                                go_roundg k3
                                case measure => have := HJ2.out; have := HJ8.out; have := HK3.out; omega
                                case rel => exact ⟨(Go.bits .or .i64 (wrap64 (x5_3 * 64)) (Go.bits .and .i64 (wrap64 (bt a0 (ji21))) 63)), (wrap64 (x8_3 + 1)), (by first | rfl | (simp; done) | (simp only [← hji21] <;> (first | rfl | simp)) | (simp [*]; done)), (by first | rfl | (simp; done) | (simp [*]; done)), H', ⟨by have := HJ2.out; have := HJ8.out; have := HK3.out; omega⟩, by repeat (first | exact Drawn0.refl _ | apply Drawn0.step)⟩
                          · rw [if_neg c23] at H
                            exact absurd H (by simp)
                        · rw [if_neg c22] at H
                          exact absurd H (by simp)
                      · rw [if_neg c20] at H
                        have c20b0 : decide (x8_3 < x6_8) = false := decide_eq_false c20
                        clear c20
                        by_cases c27 : x5_3 < x7_8
                        · rw [if_pos c27] at H
                          have c27b0 : decide (x5_3 < x7_8) = true := decide_eq_true c27
                          clear c27
                          obtain rfl := Option.some.inj H
                          go_wp2
                          go_ret
                          exact ⟨by first | rfl | (simp; done) | (simp [*]; done), by repeat (first | exact Drawn0.refl _ | apply Drawn0.step)⟩
                        · rw [if_neg c27] at H
                          have c27b0 : decide (x5_3 < x7_8) = false := decide_eq_false c27
                          clear c27
                          by_cases c28 : x5_3 > 1114111
                          · rw [if_pos c28] at H
                            have c28b0 : decide (1114111 < x5_3) = true := decide_eq_true c28
                            clear c28
                            obtain rfl := Option.some.inj H
                            go_wp2
                            go_ret
                            exact ⟨by first | rfl | (simp; done) | (simp [*]; done), by repeat (first | exact Drawn0.refl _ | apply Drawn0.step)⟩
                          · rw [if_neg c28] at H
                            have c28b0 : decide (1114111 < x5_3) = false := decide_eq_false c28
                            clear c28
                            by_cases c29 : x5_3 ≥ 55296
                            · rw [if_pos c29] at H
                              have c29b0 : decide (55296 ≤ x5_3) = true := decide_eq_true c29
                              clear c29
                              by_cases c30 : x5_3 < 57344
                              · rw [if_pos c30] at H
                                have c30b0 : decide (x5_3 < 57344) = true := decide_eq_true c30
                                clear c30
                                obtain rfl := Option.some.inj H
                                go_wp2
                                go_ret
                                exact ⟨by first | rfl | (simp; done) | (simp [*]; done), by repeat (first | exact Drawn0.refl _ | apply Drawn0.step)⟩
                              · rw [if_neg c30] at H
                                have c30b0 : decide (x5_3 < 57344) = false := decide_eq_false c30
                                clear c30
                                obtain rfl := Option.some.inj H
                                go_wp2
                                go_ret
                                exact ⟨by first | rfl | (simp; done) | (simp [*]; done), by repeat (first | exact Drawn0.refl _ | apply Drawn0.step)⟩
                            · rw [if_neg c29] at H
                              have c29b0 : decide (55296 ≤ x5_3) = false := decide_eq_false c29
                              clear c29
                              obtain rfl := Option.some.inj H
                              go_wp2
                              go_ret
                              exact ⟨by first | rfl | (simp; done) | (simp [*]; done), by repeat (first | exact Drawn0.refl _ | apply Drawn0.step)⟩
          · rw [if_neg c7] at H
            exact absurd H (by simp)
        · rw [if_neg c6] at H
          exact absurd H (by simp)
def spec_WellFormed.l0 : Nat → ByteArray → Int → Option (Bool)
  | 0, _, _ => none
  | k + 1, x0, x3 => if x3 < (x0.size : Int) then ((spec_RuneSize.f k x0 x3).bind fun t221 => (if t221 = 0 then (some false) else (spec_WellFormed.l0 k x0 (wrap64 (x3 + t221))))) else (some true)
def spec_WellFormed.f (k : Nat) (a0 : ByteArray) : Option (Bool) := spec_WellFormed.l0 k a0 0
set_option maxHeartbeats 8000000 in
set_option maxRecDepth 100000 in
theorem spec_WellFormed.calls (k : Nat) (a0 : ByteArray) (r : Bool) (w : World) (h : spec_WellFormed.f k a0 = some r) :
    Calls Tryz.prog 17 #[.string a0] w fun e w' => e = .returned (.bool r) ∧ Drawn0 w w' := by
  have H : (spec_WellFormed.l0 k a0 0) = some r := h
  clear h
  have H' := Aside0.mk H
  clear H
  go_enter Tryz.func17, Tryz.ntmps17
  go_wp2
  go_loopg [3] k (fun kq v3 w' => ∃ (x3_1 : Int), v3 = .int .i64 x3_1 ∧ Aside0 (spec_WellFormed.l0 kq a0 x3_1 = some r) ∧ Aside0 (kq ≤ k) ∧ Drawn0 w w')
  case atStart => exact ⟨(0), (by first | rfl | (simp; done) | (simp [*]; done)), H', ⟨Nat.le_refl _⟩, by repeat (first | exact Drawn0.refl _ | apply Drawn0.step)⟩
  case round =>
    clear H'
    try clear c1
    obtain ⟨x3_1, rfl, HA, HK1, ⟨m1, rfl⟩⟩ := hrel
    cases gk with
    | zero => exact absurd HA.out (by simp [spec_WellFormed.l0])
    | succ k1 =>
      have H := HA.out
      clear HA
      simp only [spec_WellFormed.l0] at H
      by_cases c2 : x3_1 < (a0.size : Int)
      · rw [if_pos c2] at H
        have c2b0 : decide (x3_1 < (a0.size : Int)) = true := decide_eq_true c2
        clear c2
        replace H := Option.bind_eq_some_iff.mp H
        obtain ⟨t221, A30, H⟩ := H
        replace H : (if t221 = 0 then (some false) else (spec_WellFormed.l0 k1 a0 (wrap64 (x3_1 + t221)))) = some r := H
        have A3 := Aside0.mk A30
        clear A30
        by_cases c4 : t221 = 0
        · rw [if_pos c4] at H
          have c4b0 : (t221 == 0) = true := beq_iff_eq.mpr c4
          have c4b1 : (t221 != 0) = false := bne_eq_false_iff_eq.mpr c4
          clear c4
          obtain rfl := Option.some.inj H
          go_wp2_with (first | ((with_reducible refine gate_callee (f := 27) rfl ?_); refine goesL_ (some 11) rfl rfl Tryz.func27 (by kernel_rfl) rfl #[.string a0, .int .i64 x3_1] rfl (by (try simp only [List.map_toArray, List.map_cons, List.map_nil]); first | done | rfl | (simp only [List.length_drop, List.length_take]; rfl)) ?_; (with_reducible refine (spec_RuneSize.calls k1 a0 x3_1 t221 _ A3.out).mono ?_); rintro e w' ⟨rfl, ⟨nd, rfl⟩⟩; refine ⟨_, rfl, ?_⟩))
          go_ret
          exact ⟨by first | rfl | (simp; done) | (simp [*]; done), by repeat (first | exact Drawn0.refl _ | apply Drawn0.step)⟩
        · rw [if_neg c4] at H
          have c4b0 : (t221 == 0) = false := beq_eq_false_iff_ne.mpr c4
          have c4b1 : (t221 != 0) = true := bne_iff_ne.mpr c4
          have H' := Aside0.mk H
          clear H
          go_wp2_with (first | ((with_reducible refine gate_callee (f := 27) rfl ?_); refine goesL_ (some 11) rfl rfl Tryz.func27 (by kernel_rfl) rfl #[.string a0, .int .i64 x3_1] rfl (by (try simp only [List.map_toArray, List.map_cons, List.map_nil]); first | done | rfl | (simp only [List.length_drop, List.length_take]; rfl)) ?_; (with_reducible refine (spec_RuneSize.calls k1 a0 x3_1 t221 _ A3.out).mono ?_); rintro e w' ⟨rfl, ⟨nd, rfl⟩⟩; refine ⟨_, rfl, ?_⟩))
          go_roundg k1
          case measure => have := HK1.out; omega
          case rel => exact ⟨(wrap64 (x3_1 + t221)), (by first | rfl | (simp; done) | (simp [*]; done)), H', ⟨by have := HK1.out; omega⟩, by repeat (first | exact Drawn0.refl _ | apply Drawn0.step)⟩
      · rw [if_neg c2] at H
        have c2b0 : decide (x3_1 < (a0.size : Int)) = false := decide_eq_false c2
        clear c2
        obtain rfl := Option.some.inj H
        go_wp2
        go_ret
        exact ⟨by first | rfl | (simp; done) | (simp [*]; done), by repeat (first | exact Drawn0.refl _ | apply Drawn0.step)⟩
def xdiff_isASCII_string.l0 : Nat → ByteArray → Int → Option (Bool)
  | 0, _, _ => none
  | k + 1, x0, x3 => if x3 < (x0.size : Int) then (if 0 ≤ x3 then (if (bt x0 x3) ≥ 128 then (some false) else (xdiff_isASCII_string.l0 k x0 (wrap64 (x3 + 1)))) else (none)) else (some true)
def xdiff_isASCII_string.f (k : Nat) (a0 : ByteArray) : Option (Bool) := xdiff_isASCII_string.l0 k a0 0
set_option maxHeartbeats 8000000 in
set_option maxRecDepth 100000 in
theorem xdiff_isASCII_string.calls (k : Nat) (a0 : ByteArray) (r : Bool) (w : World) (h : xdiff_isASCII_string.f k a0 = some r) :
    Calls Tryz.prog 36 #[.string a0] w fun e w' => e = .returned (.bool r) ∧ Drawn0 w w' := by
  have H : (xdiff_isASCII_string.l0 k a0 0) = some r := h
  clear h
  have H' := Aside0.mk H
  clear H
  go_enter Tryz.func36, Tryz.ntmps36
  go_wp2
  go_loopg [3] k (fun kq v3 w' => ∃ (x3_1 : Int), v3 = .int .i64 x3_1 ∧ Aside0 (xdiff_isASCII_string.l0 kq a0 x3_1 = some r) ∧ Aside0 (kq ≤ k) ∧ Drawn0 w w')
  case atStart => exact ⟨(0), (by first | rfl | (simp; done) | (simp [*]; done)), H', ⟨Nat.le_refl _⟩, by repeat (first | exact Drawn0.refl _ | apply Drawn0.step)⟩
  case round =>
    clear H'
    obtain ⟨x3_1, rfl, HA, HK1, ⟨m1, rfl⟩⟩ := hrel
    cases gk with
    | zero => exact absurd HA.out (by simp [xdiff_isASCII_string.l0])
    | succ k1 =>
      have H := HA.out
      clear HA
      simp only [xdiff_isASCII_string.l0] at H
      by_cases c2 : x3_1 < (a0.size : Int)
      · rw [if_pos c2] at H
        have c2b0 : decide (x3_1 < (a0.size : Int)) = true := decide_eq_true c2
        clear c2
        by_cases c3 : 0 ≤ x3_1
        · rw [if_pos c3] at H
          have c3b0 : decide (0 ≤ x3_1) = true := decide_eq_true c3
          clear c3
          by_cases c5 : (bt a0 x3_1) ≥ 128
          · rw [if_pos c5] at H
            have c5b0 : decide (128 ≤ (bt a0 x3_1)) = true := decide_eq_true c5
            clear c5
            obtain rfl := Option.some.inj H
            have p4 : 0 ≤ (x3_1 : Int) := of_decide_eq_true (by first | (with_reducible assumption) | assumption)
            have q4 : x3_1 < (a0.size : Int) := of_decide_eq_true (by first | (with_reducible assumption) | assumption)
            have hx4 := bt_at a0 x3_1
            replace p4 := eq_true p4
            replace q4 := eq_true q4
            go_wp2
            go_ret
            exact ⟨by first | rfl | (simp; done) | (simp [*]; done), by repeat (first | exact Drawn0.refl _ | apply Drawn0.step)⟩
          · rw [if_neg c5] at H
            have c5b0 : decide (128 ≤ (bt a0 x3_1)) = false := decide_eq_false c5
            clear c5
            have H' := Aside0.mk H
            clear H
            have p4 : 0 ≤ (x3_1 : Int) := of_decide_eq_true (by first | (with_reducible assumption) | assumption)
            have q4 : x3_1 < (a0.size : Int) := of_decide_eq_true (by first | (with_reducible assumption) | assumption)
            have hx4 := bt_at a0 x3_1
            replace p4 := eq_true p4
            replace q4 := eq_true q4
            go_wp2
            go_roundg k1
            case measure => have := HK1.out; omega
            case rel => exact ⟨(wrap64 (x3_1 + 1)), (by first | rfl | (simp; done) | (simp [*]; done)), H', ⟨by have := HK1.out; omega⟩, by repeat (first | exact Drawn0.refl _ | apply Drawn0.step)⟩
        · rw [if_neg c3] at H
          exact absurd H (by simp)
      · rw [if_neg c2] at H
        have c2b0 : decide (x3_1 < (a0.size : Int)) = false := decide_eq_false c2
        clear c2
        obtain rfl := Option.some.inj H
        go_wp2
        go_ret
        exact ⟨by first | rfl | (simp; done) | (simp [*]; done), by repeat (first | exact Drawn0.refl _ | apply Drawn0.step)⟩
def utf8_RuneLen.j0 : Nat → Int → Bool → Option (Int)
  | 0, _, _ => none
  | k + 1, x0, x12 => if x12 = true then (some (-1)) else (if x0 ≤ 65535 then (some 3) else (if x0 ≤ 1114111 then (some 4) else (some (-1))))
def utf8_RuneLen.f (k : Nat) (a0 : Int) : Option (Int) := if a0 < 0 then (some (-1)) else (if a0 ≤ 127 then (some 1) else (if a0 ≤ 2047 then (some 2) else (if 55296 ≤ a0 then (utf8_RuneLen.j0 k a0 (decide (a0 ≤ 57343))) else (utf8_RuneLen.j0 k a0 false))))
set_option maxHeartbeats 8000000 in
set_option maxRecDepth 100000 in
theorem utf8_RuneLen.calls (k : Nat) (a0 : Int) (r : Int) (w : World) (h : utf8_RuneLen.f k a0 = some r) :
    Calls Tryz.prog 64 #[.int .i32 a0] w fun e w' => e = .returned (.int .i64 r) ∧ Drawn0 w w' := by
  have H : (if a0 < 0 then (some (-1)) else (if a0 ≤ 127 then (some 1) else (if a0 ≤ 2047 then (some 2) else (if 55296 ≤ a0 then (utf8_RuneLen.j0 k a0 (decide (a0 ≤ 57343))) else (utf8_RuneLen.j0 k a0 false))))) = some r := h
  clear h
  by_cases c2 : a0 < 0
  · rw [if_pos c2] at H
    have c2b0 : decide (a0 < 0) = true := decide_eq_true c2
    clear c2
    obtain rfl := Option.some.inj H
    go_enter Tryz.func64, Tryz.ntmps64
    go_wp2
    go_ret
    exact ⟨by first | rfl | (simp; done) | (simp [*]; done), by repeat (first | exact Drawn0.refl _ | apply Drawn0.step)⟩
  · rw [if_neg c2] at H
    have c2b0 : decide (a0 < 0) = false := decide_eq_false c2
    clear c2
    by_cases c3 : a0 ≤ 127
    · rw [if_pos c3] at H
      have c3b0 : decide (a0 ≤ 127) = true := decide_eq_true c3
      clear c3
      obtain rfl := Option.some.inj H
      go_enter Tryz.func64, Tryz.ntmps64
      go_wp2
      go_ret
      exact ⟨by first | rfl | (simp; done) | (simp [*]; done), by repeat (first | exact Drawn0.refl _ | apply Drawn0.step)⟩
    · rw [if_neg c3] at H
      have c3b0 : decide (a0 ≤ 127) = false := decide_eq_false c3
      clear c3
      by_cases c4 : a0 ≤ 2047
      · rw [if_pos c4] at H
        have c4b0 : decide (a0 ≤ 2047) = true := decide_eq_true c4
        clear c4
        obtain rfl := Option.some.inj H
        go_enter Tryz.func64, Tryz.ntmps64
        go_wp2
        go_ret
        exact ⟨by first | rfl | (simp; done) | (simp [*]; done), by repeat (first | exact Drawn0.refl _ | apply Drawn0.step)⟩
      · rw [if_neg c4] at H
        have c4b0 : decide (a0 ≤ 2047) = false := decide_eq_false c4
        clear c4
        have HC5 := Aside0.mk H
        clear H
        go_enter Tryz.func64, Tryz.ntmps64
        go_upto_region 7 with (fail)
        go_cut [12] (fun v12 wc => ∃ (kq : Nat) (x12_4 : Bool), v12 = .bool x12_4 ∧ Aside0 (utf8_RuneLen.j0 kq a0 x12_4 = some r) ∧ Aside0 (kq ≤ k) ∧ Drawn0 w wc)
        case first =>
          have H := HC5.out
          clear HC5
          by_cases c6 : 55296 ≤ a0
          · rw [if_pos c6] at H
            have c6b0 : decide (55296 ≤ a0) = true := decide_eq_true c6
            clear c6
            (first | rw [c6b0] | (simp only [i64_w, i32_w]; rw [c6b0]) | skip)
            have H' := Aside0.mk H
            clear H
            go_wp2
            go_meet
            case rel => exact ⟨_, (decide (a0 ≤ 57343)), (by first | rfl | (simp; done) | (simp [*]; done)), H', ⟨by first | omega | exact Nat.le_refl _⟩, by repeat (first | exact Drawn0.refl _ | apply Drawn0.step)⟩
          · rw [if_neg c6] at H
            have c6b0 : decide (55296 ≤ a0) = false := decide_eq_false c6
            clear c6
            (first | rw [c6b0] | (simp only [i64_w, i32_w]; rw [c6b0]) | skip)
            have H' := Aside0.mk H
            clear H
            go_wp2
            go_meet
            case rel => exact ⟨_, (false), (by first | rfl | (simp; done) | (simp [*]; done)), H', ⟨by first | omega | exact Nat.le_refl _⟩, by repeat (first | exact Drawn0.refl _ | apply Drawn0.step)⟩
        case rest =>
          clear HC5
          try clear c2
          try clear c2b0
          try clear p2
          try clear c3
          try clear c3b0
          try clear c4
          try clear c4b0
          try clear c6
          try clear c6b0
          obtain ⟨kq, x12_4, rfl, HA, HJ4, ⟨mc4, rfl⟩⟩ := hcut
          cases kq with
          | zero => exact absurd HA.out (by simp [utf8_RuneLen.j0])
          | succ kj4 =>
            have H := HA.out
            clear HA
            simp only [utf8_RuneLen.j0] at H
            by_cases c7 : x12_4 = true
            · subst c7
              have H1 : (some (-1)) = some r := by rw [if_pos rfl] at H; exact H
              clear H
              have H := H1
              clear H1
              obtain rfl := Option.some.inj H
              go_wp2
              go_ret
              exact ⟨by first | rfl | (simp; done) | (simp [*]; done), by repeat (first | exact Drawn0.refl _ | apply Drawn0.step)⟩
            · replace c7 := Bool.eq_false_iff.mpr c7
              subst c7
              have H1 : (if a0 ≤ 65535 then (some 3) else (if a0 ≤ 1114111 then (some 4) else (some (-1)))) = some r := by rw [if_neg (show ¬ (false = true) by decide)] at H; exact H
              clear H
              have H := H1
              clear H1
              by_cases c8 : a0 ≤ 65535
              · rw [if_pos c8] at H
                have c8b0 : decide (a0 ≤ 65535) = true := decide_eq_true c8
                clear c8
                obtain rfl := Option.some.inj H
                go_wp2
                go_ret
                exact ⟨by first | rfl | (simp; done) | (simp [*]; done), by repeat (first | exact Drawn0.refl _ | apply Drawn0.step)⟩
              · rw [if_neg c8] at H
                have c8b0 : decide (a0 ≤ 65535) = false := decide_eq_false c8
                clear c8
                by_cases c9 : a0 ≤ 1114111
                · rw [if_pos c9] at H
                  have c9b0 : decide (a0 ≤ 1114111) = true := decide_eq_true c9
                  clear c9
                  obtain rfl := Option.some.inj H
                  go_wp2
                  go_ret
                  exact ⟨by first | rfl | (simp; done) | (simp [*]; done), by repeat (first | exact Drawn0.refl _ | apply Drawn0.step)⟩
                · rw [if_neg c9] at H
                  have c9b0 : decide (a0 ≤ 1114111) = false := decide_eq_false c9
                  clear c9
                  obtain rfl := Option.some.inj H
                  go_wp2
                  go_ret
                  exact ⟨by first | rfl | (simp; done) | (simp [*]; done), by repeat (first | exact Drawn0.refl _ | apply Drawn0.step)⟩
def xdiff_runesLen.l0 : Nat → Int → List Int → Int → Int → Option (Int)
  | 0, _, _, _, _ => none
  | k + 1, x2, x5, x6, x7 => if x7 < x6 then (if 0 ≤ x7 then (if x7 < (x5.length : Int) then ((utf8_RuneLen.f k (rd x5 x7)).bind fun t264 => (xdiff_runesLen.l0 k (wrap64 (x2 + t264)) x5 x6 (wrap64 (x7 + 1)))) else (none)) else (none)) else (some x2)
def xdiff_runesLen.f (k : Nat) (l0 : List Int) : Option (Int) := xdiff_runesLen.l0 k 0 l0 (l0.length : Int) 0
set_option maxHeartbeats 8000000 in
set_option maxRecDepth 100000 in
theorem xdiff_runesLen.calls (k : Nat) (A0 : Option Addr) (c0 : Nat) (l0 : List Int) (r : Int) (w : World) (hr0 : Kd.C (Kd.int .i32) w A0 l0.length l0) (hc0 : l0.length ≤ c0) (h : xdiff_runesLen.f k l0 = some r) :
    Calls Tryz.prog 53 #[.slice A0 l0.length c0] w fun e w' => e = .returned (.int .i64 r) ∧ Drawn0 w w' := by
  have HR0 := Aside0.mk hr0
  have HC0 := Aside0.mk hc0
  clear hr0 hc0
  have H : (xdiff_runesLen.l0 k 0 l0 (l0.length : Int) 0) = some r := h
  clear h
  have H' := Aside0.mk H
  clear H
  go_enter Tryz.func53, Tryz.ntmps53
  go_wp2
  go_loopg [2, 7] k (fun kq v2 v7 w' => ∃ (x2_1 : Int) (x7_1 : Int), v2 = .int .i64 x2_1 ∧ v7 = .int .i64 x7_1 ∧ Aside0 (xdiff_runesLen.l0 kq x2_1 l0 (l0.length : Int) x7_1 = some r) ∧ Aside0 (kq ≤ k) ∧ Drawn0 w w')
  case atStart => exact ⟨(0), (0), (by first | rfl | (simp; done) | (simp [*]; done)), (by first | rfl | (simp; done) | (simp [*]; done)), H', ⟨Nat.le_refl _⟩, by repeat (first | exact Drawn0.refl _ | apply Drawn0.step)⟩
  case round =>
    clear H'
    obtain ⟨x2_1, x7_1, rfl, rfl, HA, HK1, ⟨m1, rfl⟩⟩ := hrel
    cases gk with
    | zero => exact absurd HA.out (by simp [xdiff_runesLen.l0])
    | succ k1 =>
      have H := HA.out
      clear HA
      simp only [xdiff_runesLen.l0] at H
      by_cases c2 : x7_1 < (l0.length : Int)
      · rw [if_pos c2] at H
        have c2b0 : decide (x7_1 < (l0.length : Int)) = true := decide_eq_true c2
        clear c2
        by_cases c3 : 0 ≤ x7_1
        · rw [if_pos c3] at H
          have c3b0 : decide (0 ≤ x7_1) = true := decide_eq_true c3
          clear c3
          by_cases c4 : x7_1 < (l0.length : Int)
          · rw [if_pos c4] at H
            have c4b0 : decide (x7_1 < (l0.length : Int)) = true := decide_eq_true c4
            clear c4
            replace H := Option.bind_eq_some_iff.mp H
            obtain ⟨t264, A50, H⟩ := H
            replace H : (xdiff_runesLen.l0 k1 (wrap64 (x2_1 + t264)) l0 (l0.length : Int) (wrap64 (x7_1 + 1))) = some r := H
            have A5 := Aside0.mk A50
            clear A50
            have H' := Aside0.mk H
            clear H
            have p263 : 0 ≤ (x7_1 : Int) := of_decide_eq_true (by first | (with_reducible assumption) | assumption)
            have q263 : x7_1 < (l0.length : Int) := of_decide_eq_true (by first | (with_reducible assumption) | assumption)
            obtain ⟨ad263, e263, hx263_0⟩ := Kd.at_int HR0.out x7_1 p263 q263
            cases e263
            replace p263 := eq_true p263
            replace q263 := eq_true q263
            go_wp2_with (first | ((with_reducible refine gate_callee (f := 64) rfl ?_); refine goesL_ (some 13) rfl rfl Tryz.func64 (by kernel_rfl) rfl #[.int .i32 (rd l0 x7_1)] rfl (by (try simp only [List.map_toArray, List.map_cons, List.map_nil]); first | done | rfl | (simp only [List.length_drop, List.length_take]; rfl)) ?_; (with_reducible refine (utf8_RuneLen.calls k1 (rd l0 x7_1) t264 _ A5.out).mono ?_); rintro e w' ⟨rfl, ⟨nd, rfl⟩⟩; refine ⟨_, rfl, ?_⟩))
            go_roundg k1
            case measure => have := HK1.out; omega
            case rel => exact ⟨(wrap64 (x2_1 + t264)), (wrap64 (x7_1 + 1)), (by first | rfl | (simp; done) | (simp [*]; done)), (by first | rfl | (simp; done) | (simp [*]; done)), H', ⟨by have := HK1.out; omega⟩, by repeat (first | exact Drawn0.refl _ | apply Drawn0.step)⟩
          · rw [if_neg c4] at H
            exact absurd H (by simp)
        · rw [if_neg c3] at H
          exact absurd H (by simp)
      · rw [if_neg c2] at H
        have c2b0 : decide (x7_1 < (l0.length : Int)) = false := decide_eq_false c2
        clear c2
        obtain rfl := Option.some.inj H
        go_wp2
        go_ret
        exact ⟨by first | rfl | (simp; done) | (simp [*]; done), by repeat (first | exact Drawn0.refl _ | apply Drawn0.step)⟩
end Go.Proofs.YtonajgipkpnpoaaGreatDoor.PWfN
