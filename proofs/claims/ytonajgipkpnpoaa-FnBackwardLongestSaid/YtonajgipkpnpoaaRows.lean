/-
  No cell of these rows narrows 'for every input' (looked for: loops, veiled, ifaces, maps, wideKeys, modest, calm, conditions, laid).
  DERIVED. THE GIVEN ROWS OF THIS SEAT. 3 by the template 'for every input the law returns true; each argument reads behind the call as it read before'; 0 by the template 'total and deterministic' (their statements: YtonajgipkpnpoaaTotals.lean).
  GIVEN WITH THE SEED: the statements are not yours to turn. If you find one false, say at which input.
  Laid BY PROGRAM, IN A SANDBOX (cutbox-rows.mjs): the forced cells as the released guide's own fill.sh prints them over the translation 54303eb1ae45016b… (all of the seat's roots in one cut). By AI agents, Wed Nov 11 2026. No macro, syntax, notation, axiom, sorry.
-/
import Derived.Test.YtonajgipkpnpoaaChecked
import GoSem.Claim
import GoSem.ClaimJoined
import GoSem.ClaimMapViews
import Derived.JoinedTies
import Derived.KernelRfl
namespace Go.Proofs.Ytonajgipkpnpoaa
/- THE CELL 'sum', in the pinned program and in every row, IS THE sha256 OF THE DUMP (.gsa) THAT YtonajgipkpnpoaaProg.lean LOADS. Nothing in Lean hashes anything: it is a label: what it is worth is what the hold of that sum in a sandbox is worth. -/
noncomputable def Try.pinned : Pinned := { name := "ytonajgipkpnpoaa", sum := "54303eb1ae45016b9369e7efca90c7d451a93d9461c0881e6f04fd9516f3cf2e", checked := Try.checked }
namespace Rows
def none {H : Type} : Left H := { results := [], args := [] }

/-- 'laws.FnSortReference': WHATEVER THE INPUT: true; the input reads as it did. -/
def fnSortReferenceSpec : ChangeSpec := { name := "fnSortReference", fn := fun _ => fun
  | [d] => { results := [.lit (.bool true)], args := [d] }
  | _ => none }
def fnSortReferenceRow : OpenClaim := { program := "ytonajgipkpnpoaa", sum := "54303eb1ae45016b9369e7efca90c7d451a93d9461c0881e6f04fd9516f3cf2e", func := "loop.example/pub-g01452/laws.FnSortReference", spec := "fnSortReference", unfollowed := true, recurses := true, apart := false }
def FnSortReferenceSaid : Prop := fnSortReferenceRow.holds Try.pinned (OpenSpec.ofChange fnSortReferenceSpec)

/-- ITS FALSE NEIGHBOUR: 'it returns false'. Refute it at one input. -/
def fnSortReferenceWrong : ChangeSpec := { name := "fnSortReference", fn := fun _ => fun
  | [d] => { results := [.lit (.bool false)], args := [d] }
  | _ => none }
def FnSortReferenceWrongFalsely : Prop := fnSortReferenceRow.holds Try.pinned (OpenSpec.ofChange fnSortReferenceWrong)

/-- 'laws.FnBackwardLead': WHATEVER THE INPUT: true; the input reads as it did. -/
def fnBackwardLeadSpec : ChangeSpec := { name := "fnBackwardLead", fn := fun _ => fun
  | [d1, d2, d3] => { results := [.lit (.bool true)], args := [d1, d2, d3] }
  | _ => none }
def fnBackwardLeadRow : OpenClaim := { program := "ytonajgipkpnpoaa", sum := "54303eb1ae45016b9369e7efca90c7d451a93d9461c0881e6f04fd9516f3cf2e", func := "loop.example/pub-g01452/laws.FnBackwardLead", spec := "fnBackwardLead", unfollowed := true, recurses := true, apart := false }
def FnBackwardLeadSaid : Prop := fnBackwardLeadRow.holds Try.pinned (OpenSpec.ofChange fnBackwardLeadSpec)

/-- ITS FALSE NEIGHBOUR: 'it returns false'. Refute it at one input. -/
def fnBackwardLeadWrong : ChangeSpec := { name := "fnBackwardLead", fn := fun _ => fun
  | [d1, d2, d3] => { results := [.lit (.bool false)], args := [d1, d2, d3] }
  | _ => none }
def FnBackwardLeadWrongFalsely : Prop := fnBackwardLeadRow.holds Try.pinned (OpenSpec.ofChange fnBackwardLeadWrong)

/-- 'laws.FnBackwardLongest': WHATEVER THE INPUT: true; the input reads as it did. -/
def fnBackwardLongestSpec : ChangeSpec := { name := "fnBackwardLongest", fn := fun _ => fun
  | [d1, d2, d3] => { results := [.lit (.bool true)], args := [d1, d2, d3] }
  | _ => none }
def fnBackwardLongestRow : OpenClaim := { program := "ytonajgipkpnpoaa", sum := "54303eb1ae45016b9369e7efca90c7d451a93d9461c0881e6f04fd9516f3cf2e", func := "loop.example/pub-g01452/laws.FnBackwardLongest", spec := "fnBackwardLongest", unfollowed := true, recurses := true, apart := false }
def FnBackwardLongestSaid : Prop := fnBackwardLongestRow.holds Try.pinned (OpenSpec.ofChange fnBackwardLongestSpec)

/-- ITS FALSE NEIGHBOUR: 'it returns false'. Refute it at one input. -/
def fnBackwardLongestWrong : ChangeSpec := { name := "fnBackwardLongest", fn := fun _ => fun
  | [d1, d2, d3] => { results := [.lit (.bool false)], args := [d1, d2, d3] }
  | _ => none }
def FnBackwardLongestWrongFalsely : Prop := fnBackwardLongestRow.holds Try.pinned (OpenSpec.ofChange fnBackwardLongestWrong)

/- THE SECOND FORM. 'bulk': how many values and letters a reading holds, each counted each time it is reached (what is shared counts as often as it is met; a slice's spare places count too). A statement '..UptoSaid' is the law's where the arguments, and the package variables that the reading takes, are together of bulk at most 1048576: NARROWER than '..Said'. Prove '..Said' where nothing that the law and all that it calls make is longer than what came in: it says more and counts as full. Else prove '..UptoSaid'. A law counts once. -/
mutual
def uptoBulk {H : Type} : DataW H → Nat
  | .lit (.string bytes) => bytes.length + 1
  | .lit _ => 1
  | .nil => 1
  | .ptr d => uptoBulk d + 1
  | .slice elems spare => uptoBulkAll elems + uptoBulkAll spare + 1
  | .agg parts => uptoBulkAll parts + 1
  | .iface _ d => uptoBulk d + 1
  | .map entries => uptoBulkEntries entries + 1
  | .held _ => 1
def uptoBulkAll {H : Type} : List (DataW H) → Nat
  | [] => 0
  | d :: r => uptoBulk d + uptoBulkAll r
def uptoBulkEntries {H : Type} : List (Lit × DataW H) → Nat
  | [] => 0
  | x :: r => uptoBulkEntry x + uptoBulkEntries r
def uptoBulkEntry {H : Type} : Lit × DataW H → Nat
  | (.string bytes, d) => bytes.length + uptoBulk d + 1
  | (_, d) => uptoBulk d + 1
 end
def uptoSmall : (H : Type) → List (DataW H) → Bool := fun _ ds => decide (uptoBulkAll ds ≤ 1048576)
def OpenSpec.upto (s : _root_.Go.ChangeSpec) : _root_.Go.OpenSpec := { _root_.Go.OpenSpec.ofChange s with cond := some uptoSmall }

/-- 'laws.FnSortReference', WHERE WHAT IT READS IS OF BULK AT MOST 1048576: true; the input reads as it did. -/
def fnSortReferenceUptoRow : OpenClaim := { program := "ytonajgipkpnpoaa", sum := "54303eb1ae45016b9369e7efca90c7d451a93d9461c0881e6f04fd9516f3cf2e", func := "loop.example/pub-g01452/laws.FnSortReference", spec := "fnSortReference", unfollowed := true, recurses := true, apart := false, narrowed := true }
def FnSortReferenceUptoSaid : Prop := fnSortReferenceUptoRow.holds Try.pinned (OpenSpec.upto fnSortReferenceSpec)

/-- 'laws.FnBackwardLead', WHERE WHAT IT READS IS OF BULK AT MOST 1048576: true; the input reads as it did. -/
def fnBackwardLeadUptoRow : OpenClaim := { program := "ytonajgipkpnpoaa", sum := "54303eb1ae45016b9369e7efca90c7d451a93d9461c0881e6f04fd9516f3cf2e", func := "loop.example/pub-g01452/laws.FnBackwardLead", spec := "fnBackwardLead", unfollowed := true, recurses := true, apart := false, narrowed := true }
def FnBackwardLeadUptoSaid : Prop := fnBackwardLeadUptoRow.holds Try.pinned (OpenSpec.upto fnBackwardLeadSpec)

/-- 'laws.FnBackwardLongest', WHERE WHAT IT READS IS OF BULK AT MOST 1048576: true; the input reads as it did. -/
def fnBackwardLongestUptoRow : OpenClaim := { program := "ytonajgipkpnpoaa", sum := "54303eb1ae45016b9369e7efca90c7d451a93d9461c0881e6f04fd9516f3cf2e", func := "loop.example/pub-g01452/laws.FnBackwardLongest", spec := "fnBackwardLongest", unfollowed := true, recurses := true, apart := false, narrowed := true }
def FnBackwardLongestUptoSaid : Prop := fnBackwardLongestUptoRow.holds Try.pinned (OpenSpec.upto fnBackwardLongestSpec)

end Rows
end Go.Proofs.Ytonajgipkpnpoaa
