/-
  No cell of these rows narrows 'for every input' (looked for: loops, veiled, ifaces, maps, wideKeys, modest, calm, conditions, laid).
  DERIVED. THE GIVEN ROWS OF THIS SEAT. 6 by the template 'for every input the law returns true; each argument reads behind the call as it read before'; 0 by the template 'total and deterministic' (their statements: Qxb6604601aTotals.lean).
  GIVEN WITH THE SEED: the statements are not yours to turn. If you find one false, say at which input.
  Laid BY PROGRAM, IN A SANDBOX (cutbox-rows.mjs): the forced cells as the released guide's own fill.sh prints them over the translation 51d0bf84300a60a3… (all of the seat's roots in one cut). By AI agents, Wed Nov 11 2026. No macro, syntax, notation, axiom, sorry.
-/
import Derived.Test.Qxb6604601aChecked
import GoSem.Claim
import GoSem.ClaimJoined
import GoSem.ClaimMapViews
import Derived.JoinedTies
import Derived.KernelRfl
namespace Go.Proofs.Qxb6604601a
/- THE CELL 'sum', in the pinned program and in every row, IS THE sha256 OF THE DUMP (.gsa) THAT Qxb6604601aProg.lean LOADS. Nothing in Lean hashes anything: it is a label: what it is worth is what the hold of that sum in a sandbox is worth. -/
noncomputable def Try.pinned : Pinned := { name := "qxb6604601a", sum := "51d0bf84300a60a38fd92beebeb100ea4ecfa465b29f62440680f766da4cba9d", checked := Try.checked }
namespace Rows
def none {H : Type} : Left H := { results := [], args := [] }

/-- 'zzlaws_root_b1.FnWordSumAddMatchesLimbModel': WHATEVER THE INPUT: true; the input reads as it did. -/
def fnWordSumAddMatchesLimbModelSpec : ChangeSpec := { name := "fnWordSumAddMatchesLimbModel", fn := fun _ => fun
  | [d1, d2, d3] => { results := [.lit (.bool true)], args := [d1, d2, d3] }
  | _ => none }
def fnWordSumAddMatchesLimbModelRow : OpenClaim := { program := "qxb6604601a", sum := "51d0bf84300a60a38fd92beebeb100ea4ecfa465b29f62440680f766da4cba9d", func := "example.com/tierbond/tierbond/zzlaws_root_b1.FnWordSumAddMatchesLimbModel", spec := "fnWordSumAddMatchesLimbModel", inPlace := ["math/bits.Add64"], apart := false }
def FnWordSumAddMatchesLimbModelSaid : Prop := fnWordSumAddMatchesLimbModelRow.holds Try.pinned (OpenSpec.ofChange fnWordSumAddMatchesLimbModelSpec)

/-- ITS FALSE NEIGHBOUR: 'it returns false'. Refute it at one input. -/
def fnWordSumAddMatchesLimbModelWrong : ChangeSpec := { name := "fnWordSumAddMatchesLimbModel", fn := fun _ => fun
  | [d1, d2, d3] => { results := [.lit (.bool false)], args := [d1, d2, d3] }
  | _ => none }
def FnWordSumAddMatchesLimbModelWrongFalsely : Prop := fnWordSumAddMatchesLimbModelRow.holds Try.pinned (OpenSpec.ofChange fnWordSumAddMatchesLimbModelWrong)

/-- 'zzlaws_root_b1.FnWordSumAddListExactBoundedOrderFree': WHATEVER THE INPUT: true; the input reads as it did. -/
def fnWordSumAddListExactBoundedOrderFreeSpec : ChangeSpec := { name := "fnWordSumAddListExactBoundedOrderFree", fn := fun _ => fun
  | [d] => { results := [.lit (.bool true)], args := [d] }
  | _ => none }
def fnWordSumAddListExactBoundedOrderFreeRow : OpenClaim := { program := "qxb6604601a", sum := "51d0bf84300a60a38fd92beebeb100ea4ecfa465b29f62440680f766da4cba9d", func := "example.com/tierbond/tierbond/zzlaws_root_b1.FnWordSumAddListExactBoundedOrderFree", spec := "fnWordSumAddListExactBoundedOrderFree", inPlace := ["math/bits.Add64"], apart := false }
def FnWordSumAddListExactBoundedOrderFreeSaid : Prop := fnWordSumAddListExactBoundedOrderFreeRow.holds Try.pinned (OpenSpec.ofChange fnWordSumAddListExactBoundedOrderFreeSpec)

/-- ITS FALSE NEIGHBOUR: 'it returns false'. Refute it at one input. -/
def fnWordSumAddListExactBoundedOrderFreeWrong : ChangeSpec := { name := "fnWordSumAddListExactBoundedOrderFree", fn := fun _ => fun
  | [d] => { results := [.lit (.bool false)], args := [d] }
  | _ => none }
def FnWordSumAddListExactBoundedOrderFreeWrongFalsely : Prop := fnWordSumAddListExactBoundedOrderFreeRow.holds Try.pinned (OpenSpec.ofChange fnWordSumAddListExactBoundedOrderFreeWrong)

/-- 'zzlaws_root_b1.FnByteSetAddMatchesBoolModel': WHATEVER THE INPUT: true; the input reads as it did. -/
def fnByteSetAddMatchesBoolModelSpec : ChangeSpec := { name := "fnByteSetAddMatchesBoolModel", fn := fun _ => fun
  | [d1, d2] => { results := [.lit (.bool true)], args := [d1, d2] }
  | _ => none }
def fnByteSetAddMatchesBoolModelRow : OpenClaim := { program := "qxb6604601a", sum := "51d0bf84300a60a38fd92beebeb100ea4ecfa465b29f62440680f766da4cba9d", func := "example.com/tierbond/tierbond/zzlaws_root_b1.FnByteSetAddMatchesBoolModel", spec := "fnByteSetAddMatchesBoolModel", apart := false }
def FnByteSetAddMatchesBoolModelSaid : Prop := fnByteSetAddMatchesBoolModelRow.holds Try.pinned (OpenSpec.ofChange fnByteSetAddMatchesBoolModelSpec)

/-- ITS FALSE NEIGHBOUR: 'it returns false'. Refute it at one input. -/
def fnByteSetAddMatchesBoolModelWrong : ChangeSpec := { name := "fnByteSetAddMatchesBoolModel", fn := fun _ => fun
  | [d1, d2] => { results := [.lit (.bool false)], args := [d1, d2] }
  | _ => none }
def FnByteSetAddMatchesBoolModelWrongFalsely : Prop := fnByteSetAddMatchesBoolModelRow.holds Try.pinned (OpenSpec.ofChange fnByteSetAddMatchesBoolModelWrong)

/-- 'zzlaws_root_b1.FnByteSetAddCountsNewMembers': WHATEVER THE INPUT: true; the input reads as it did. -/
def fnByteSetAddCountsNewMembersSpec : ChangeSpec := { name := "fnByteSetAddCountsNewMembers", fn := fun _ => fun
  | [d1, d2, d3] => { results := [.lit (.bool true)], args := [d1, d2, d3] }
  | _ => none }
def fnByteSetAddCountsNewMembersRow : OpenClaim := { program := "qxb6604601a", sum := "51d0bf84300a60a38fd92beebeb100ea4ecfa465b29f62440680f766da4cba9d", func := "example.com/tierbond/tierbond/zzlaws_root_b1.FnByteSetAddCountsNewMembers", spec := "fnByteSetAddCountsNewMembers", apart := false }
def FnByteSetAddCountsNewMembersSaid : Prop := fnByteSetAddCountsNewMembersRow.holds Try.pinned (OpenSpec.ofChange fnByteSetAddCountsNewMembersSpec)

/-- ITS FALSE NEIGHBOUR: 'it returns false'. Refute it at one input. -/
def fnByteSetAddCountsNewMembersWrong : ChangeSpec := { name := "fnByteSetAddCountsNewMembers", fn := fun _ => fun
  | [d1, d2, d3] => { results := [.lit (.bool false)], args := [d1, d2, d3] }
  | _ => none }
def FnByteSetAddCountsNewMembersWrongFalsely : Prop := fnByteSetAddCountsNewMembersRow.holds Try.pinned (OpenSpec.ofChange fnByteSetAddCountsNewMembersWrong)

/-- 'zzlaws_root_b1.FnPlacesInLastOccurrence': WHATEVER THE INPUT: true; the input reads as it did. -/
def fnPlacesInLastOccurrenceSpec : ChangeSpec := { name := "fnPlacesInLastOccurrence", fn := fun _ => fun
  | [d1, d2] => { results := [.lit (.bool true)], args := [d1, d2] }
  | _ => none }
def fnPlacesInLastOccurrenceRow : OpenClaim := { program := "qxb6604601a", sum := "51d0bf84300a60a38fd92beebeb100ea4ecfa465b29f62440680f766da4cba9d", func := "example.com/tierbond/tierbond/zzlaws_root_b1.FnPlacesInLastOccurrence", spec := "fnPlacesInLastOccurrence", apart := false }
def FnPlacesInLastOccurrenceSaid : Prop := fnPlacesInLastOccurrenceRow.holds Try.pinned (OpenSpec.ofChange fnPlacesInLastOccurrenceSpec)

/-- ITS FALSE NEIGHBOUR: 'it returns false'. Refute it at one input. -/
def fnPlacesInLastOccurrenceWrong : ChangeSpec := { name := "fnPlacesInLastOccurrence", fn := fun _ => fun
  | [d1, d2] => { results := [.lit (.bool false)], args := [d1, d2] }
  | _ => none }
def FnPlacesInLastOccurrenceWrongFalsely : Prop := fnPlacesInLastOccurrenceRow.holds Try.pinned (OpenSpec.ofChange fnPlacesInLastOccurrenceWrong)

/-- 'zzlaws_root_b1.FnPlacesInSelfLookup': WHATEVER THE INPUT: true; the input reads as it did. -/
def fnPlacesInSelfLookupSpec : ChangeSpec := { name := "fnPlacesInSelfLookup", fn := fun _ => fun
  | [d] => { results := [.lit (.bool true)], args := [d] }
  | _ => none }
def fnPlacesInSelfLookupRow : OpenClaim := { program := "qxb6604601a", sum := "51d0bf84300a60a38fd92beebeb100ea4ecfa465b29f62440680f766da4cba9d", func := "example.com/tierbond/tierbond/zzlaws_root_b1.FnPlacesInSelfLookup", spec := "fnPlacesInSelfLookup", apart := false }
def FnPlacesInSelfLookupSaid : Prop := fnPlacesInSelfLookupRow.holds Try.pinned (OpenSpec.ofChange fnPlacesInSelfLookupSpec)

/-- ITS FALSE NEIGHBOUR: 'it returns false'. Refute it at one input. -/
def fnPlacesInSelfLookupWrong : ChangeSpec := { name := "fnPlacesInSelfLookup", fn := fun _ => fun
  | [d] => { results := [.lit (.bool false)], args := [d] }
  | _ => none }
def FnPlacesInSelfLookupWrongFalsely : Prop := fnPlacesInSelfLookupRow.holds Try.pinned (OpenSpec.ofChange fnPlacesInSelfLookupWrong)

end Rows
end Go.Proofs.Qxb6604601a
