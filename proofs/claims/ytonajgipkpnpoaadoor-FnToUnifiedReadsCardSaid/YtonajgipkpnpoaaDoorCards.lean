/-
  DERIVED. GIVEN WITH THE SEED: THE CARDS: each row of YtonajgipkpnpoaaDoorRows.lean that lists a variable, with what it lists TIED to the program's text (the seventh form; the later family's looks); each row that meets fmt, with fmt's text TOLD by the authors' own Lean function (tested against real Go, not proved from fmt's source: count such statements apart). THE CARD IS WHAT COUNTS. Prove the row's statement (the work); the ties are given (YtonajgipkpnpoaaDoorTie.lean); close each card by the builder's one call (the guide's Derived/Test/ToyasCard.lean, 'card_holds'). Laid BY PROGRAM, IN A SANDBOX (cutbox-door.mjs). By AI agents, Wed Nov 11 2026. No macro, syntax, notation, axiom, sorry.
-/
import Derived.Test.YtonajgipkpnpoaaDoorRows
import GoSem.ClaimSeven
namespace Go.Proofs.YtonajgipkpnpoaaDoor
namespace Rows

/-- THE TIED CARD OF 'laws.FnToUnifiedReads'. -/
def fnToUnifiedReadsCard : Claim7 := { stood := { row := fnToUnifiedReadsRow, standIns := [], harness := (true, "0509c634ceaa26eb4770b214a642462aae7baf7275300c35bc53216f3278ea92"), looks := false }, kinds := [], alts := [], laidByText := true, laidKinds := [.data, .data, .data], laidTests := true, laidLooks := .later }
def FnToUnifiedReadsCardSaid : Prop := Claim7.holds Tryd.pinned (.plain (OpenSpec.ofChange fnToUnifiedReadsSpec)) fnToUnifiedReadsCard

/-- THE SECOND FORM's CARD OF 'laws.FnToUnifiedReads'. -/
def fnToUnifiedReadsUptoCard : Claim7 := { stood := { row := fnToUnifiedReadsUptoRow, standIns := [], harness := (true, "0509c634ceaa26eb4770b214a642462aae7baf7275300c35bc53216f3278ea92"), looks := false }, kinds := [], alts := [], laidByText := true, laidKinds := [.data, .data, .data], laidTests := true, laidLooks := .later }
def FnToUnifiedReadsUptoCardSaid : Prop := Claim7.holds Tryd.pinned (.plain (OpenSpec.upto fnToUnifiedReadsSpec)) fnToUnifiedReadsUptoCard
end Rows
end Go.Proofs.YtonajgipkpnpoaaDoor
