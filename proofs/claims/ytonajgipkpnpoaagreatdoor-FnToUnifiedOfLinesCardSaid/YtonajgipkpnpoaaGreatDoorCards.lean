/-
  DERIVED. GIVEN WITH THE SEED: THE CARDS: each row of YtonajgipkpnpoaaGreatDoorRows.lean that lists a variable, with what it lists TIED to the program's text (the seventh form; the later family's looks); each row that meets fmt, with fmt's text TOLD by the authors' own Lean function (tested against real Go, not proved from fmt's source: count such statements apart). THE CARD IS WHAT COUNTS. Prove the row's statement (the work); the ties are given (YtonajgipkpnpoaaGreatDoorTie.lean); close each card by the builder's one call (the guide's Derived/Test/ToyasCard.lean, 'card_holds'). Laid BY PROGRAM, IN A SANDBOX (cutbox-door.mjs). By AI agents, Wed Nov 11 2026. No macro, syntax, notation, axiom, sorry.
-/
import Derived.Test.YtonajgipkpnpoaaGreatDoorRows
import GoSem.ClaimSeven
namespace Go.Proofs.YtonajgipkpnpoaaGreatDoor
namespace Rows

/-- THE TIED CARD OF 'laws.FnUnifiedAround'. -/
def fnUnifiedAroundCard : Claim7 := { stood := { row := fnUnifiedAroundRow, standIns := [], harness := (true, "0fafb847efd31211db09c7b88b437f79e771f133cdda6b81f1bf3757743ec000"), looks := false }, kinds := [], alts := [], laidByText := true, laidKinds := [.data, .data, .data], laidTests := true, laidLooks := .later }
def FnUnifiedAroundCardSaid : Prop := Claim7.holds Tryz.pinned (.plain (OpenSpec.ofChange fnUnifiedAroundSpec)) fnUnifiedAroundCard

/-- THE TIED CARD OF 'laws.FnUnifiedReads'. -/
def fnUnifiedReadsCard : Claim7 := { stood := { row := fnUnifiedReadsRow, standIns := [], harness := (true, "0fafb847efd31211db09c7b88b437f79e771f133cdda6b81f1bf3757743ec000"), looks := false }, kinds := [], alts := [], laidByText := true, laidKinds := [.data, .data, .data], laidTests := true, laidLooks := .later }
def FnUnifiedReadsCardSaid : Prop := Claim7.holds Tryz.pinned (.plain (OpenSpec.ofChange fnUnifiedReadsSpec)) fnUnifiedReadsCard

/-- THE TIED CARD OF 'laws.FnToUnifiedOfLines'. -/
def fnToUnifiedOfLinesCard : Claim7 := { stood := { row := fnToUnifiedOfLinesRow, standIns := [], harness := (true, "0fafb847efd31211db09c7b88b437f79e771f133cdda6b81f1bf3757743ec000"), looks := false }, kinds := [], alts := [], laidByText := true, laidKinds := [.data, .data, .data], laidTests := true, laidLooks := .later }
def FnToUnifiedOfLinesCardSaid : Prop := Claim7.holds Tryz.pinned (.plain (OpenSpec.ofChange fnToUnifiedOfLinesSpec)) fnToUnifiedOfLinesCard

/-- THE TIED CARD OF 'laws.FnToUnifiedOfStrings'. -/
def fnToUnifiedOfStringsCard : Claim7 := { stood := { row := fnToUnifiedOfStringsRow, standIns := [], harness := (true, "0fafb847efd31211db09c7b88b437f79e771f133cdda6b81f1bf3757743ec000"), looks := false }, kinds := [], alts := [], laidByText := true, laidKinds := [.data, .data, .data], laidTests := true, laidLooks := .later }
def FnToUnifiedOfStringsCardSaid : Prop := Claim7.holds Tryz.pinned (.plain (OpenSpec.ofChange fnToUnifiedOfStringsSpec)) fnToUnifiedOfStringsCard

/-- THE SECOND FORM's CARD OF 'laws.FnUnifiedAround'. -/
def fnUnifiedAroundUptoCard : Claim7 := { stood := { row := fnUnifiedAroundUptoRow, standIns := [], harness := (true, "0fafb847efd31211db09c7b88b437f79e771f133cdda6b81f1bf3757743ec000"), looks := false }, kinds := [], alts := [], laidByText := true, laidKinds := [.data, .data, .data], laidTests := true, laidLooks := .later }
def FnUnifiedAroundUptoCardSaid : Prop := Claim7.holds Tryz.pinned (.plain (OpenSpec.upto fnUnifiedAroundSpec)) fnUnifiedAroundUptoCard

/-- THE SECOND FORM's CARD OF 'laws.FnUnifiedReads'. -/
def fnUnifiedReadsUptoCard : Claim7 := { stood := { row := fnUnifiedReadsUptoRow, standIns := [], harness := (true, "0fafb847efd31211db09c7b88b437f79e771f133cdda6b81f1bf3757743ec000"), looks := false }, kinds := [], alts := [], laidByText := true, laidKinds := [.data, .data, .data], laidTests := true, laidLooks := .later }
def FnUnifiedReadsUptoCardSaid : Prop := Claim7.holds Tryz.pinned (.plain (OpenSpec.upto fnUnifiedReadsSpec)) fnUnifiedReadsUptoCard

/-- THE SECOND FORM's CARD OF 'laws.FnToUnifiedOfLines'. -/
def fnToUnifiedOfLinesUptoCard : Claim7 := { stood := { row := fnToUnifiedOfLinesUptoRow, standIns := [], harness := (true, "0fafb847efd31211db09c7b88b437f79e771f133cdda6b81f1bf3757743ec000"), looks := false }, kinds := [], alts := [], laidByText := true, laidKinds := [.data, .data, .data], laidTests := true, laidLooks := .later }
def FnToUnifiedOfLinesUptoCardSaid : Prop := Claim7.holds Tryz.pinned (.plain (OpenSpec.upto fnToUnifiedOfLinesSpec)) fnToUnifiedOfLinesUptoCard

/-- THE SECOND FORM's CARD OF 'laws.FnToUnifiedOfStrings'. -/
def fnToUnifiedOfStringsUptoCard : Claim7 := { stood := { row := fnToUnifiedOfStringsUptoRow, standIns := [], harness := (true, "0fafb847efd31211db09c7b88b437f79e771f133cdda6b81f1bf3757743ec000"), looks := false }, kinds := [], alts := [], laidByText := true, laidKinds := [.data, .data, .data], laidTests := true, laidLooks := .later }
def FnToUnifiedOfStringsUptoCardSaid : Prop := Claim7.holds Tryz.pinned (.plain (OpenSpec.upto fnToUnifiedOfStringsSpec)) fnToUnifiedOfStringsUptoCard
end Rows
end Go.Proofs.YtonajgipkpnpoaaGreatDoor
