/-
  No cell of these rows narrows 'for every input' (looked for: loops, veiled, ifaces, maps, wideKeys, modest, calm, conditions, laid).
  DERIVED. THE GIVEN ROWS OF THIS SEAT. 4 by the template 'for every input the law returns true; each argument reads behind the call as it read before'; 0 by the template 'total and deterministic' (their statements: Qxb6604654aTotals.lean).
  GIVEN WITH THE SEED: the statements are not yours to turn. If you find one false, say at which input.
  Laid BY PROGRAM, IN A SANDBOX (cutbox-rows.mjs): the forced cells as the released guide's own fill.sh prints them over the translation c65f97344cc1026f… (all of the seat's roots in one cut). By AI agents, Wed Nov 11 2026. No macro, syntax, notation, axiom, sorry.
-/
import Derived.Test.Qxb6604654aChecked
import GoSem.Claim
import GoSem.ClaimJoined
import GoSem.ClaimMapViews
import Derived.JoinedTies
import Derived.KernelRfl
namespace Go.Proofs.Qxb6604654a
/- THE CELL 'sum', in the pinned program and in every row, IS THE sha256 OF THE DUMP (.gsa) THAT Qxb6604654aProg.lean LOADS. Nothing in Lean hashes anything: it is a label: what it is worth is what the hold of that sum in a sandbox is worth. -/
noncomputable def Try.pinned : Pinned := { name := "qxb6604654a", sum := "c65f97344cc1026f85f494526662d547f600327a14f620f958791135ee78a034", checked := Try.checked }
namespace Rows
def none {H : Type} : Left H := { results := [], args := [] }

/-- 'zzlaws_root_b1.FnAppendCanonicalIsDeterministicEncoding': WHATEVER THE INPUT: true; the input reads as it did. -/
def fnAppendCanonicalIsDeterministicEncodingSpec : ChangeSpec := { name := "fnAppendCanonicalIsDeterministicEncoding", fn := fun _ => fun
  | [d1, d2] => { results := [.lit (.bool true)], args := [d1, d2] }
  | _ => none }
def fnAppendCanonicalIsDeterministicEncodingRow : OpenClaim := { program := "qxb6604654a", sum := "c65f97344cc1026f85f494526662d547f600327a14f620f958791135ee78a034", func := "example.com/latticework/latticework/zzlaws_root_b1.FnAppendCanonicalIsDeterministicEncoding", spec := "fnAppendCanonicalIsDeterministicEncoding", inPlace := ["internal/bytealg.Compare"], unfollowed := true, recurses := true, named := ["encoding/binary.BigEndian"], apart := false }
def FnAppendCanonicalIsDeterministicEncodingSaid : Prop := fnAppendCanonicalIsDeterministicEncodingRow.holds Try.pinned (OpenSpec.ofChange fnAppendCanonicalIsDeterministicEncodingSpec)

/-- ITS FALSE NEIGHBOUR: 'it returns false'. Refute it at one input. -/
def fnAppendCanonicalIsDeterministicEncodingWrong : ChangeSpec := { name := "fnAppendCanonicalIsDeterministicEncoding", fn := fun _ => fun
  | [d1, d2] => { results := [.lit (.bool false)], args := [d1, d2] }
  | _ => none }
def FnAppendCanonicalIsDeterministicEncodingWrongFalsely : Prop := fnAppendCanonicalIsDeterministicEncodingRow.holds Try.pinned (OpenSpec.ofChange fnAppendCanonicalIsDeterministicEncodingWrong)

/-- 'zzlaws_root_b1.FnAppendCanonicalLeavesCanonicalAlone': WHATEVER THE INPUT: true; the input reads as it did. -/
def fnAppendCanonicalLeavesCanonicalAloneSpec : ChangeSpec := { name := "fnAppendCanonicalLeavesCanonicalAlone", fn := fun _ => fun
  | [d1, d2] => { results := [.lit (.bool true)], args := [d1, d2] }
  | _ => none }
def fnAppendCanonicalLeavesCanonicalAloneRow : OpenClaim := { program := "qxb6604654a", sum := "c65f97344cc1026f85f494526662d547f600327a14f620f958791135ee78a034", func := "example.com/latticework/latticework/zzlaws_root_b1.FnAppendCanonicalLeavesCanonicalAlone", spec := "fnAppendCanonicalLeavesCanonicalAlone", inPlace := ["internal/bytealg.Compare"], unfollowed := true, recurses := true, named := ["encoding/binary.BigEndian"], apart := false }
def FnAppendCanonicalLeavesCanonicalAloneSaid : Prop := fnAppendCanonicalLeavesCanonicalAloneRow.holds Try.pinned (OpenSpec.ofChange fnAppendCanonicalLeavesCanonicalAloneSpec)

/-- ITS FALSE NEIGHBOUR: 'it returns false'. Refute it at one input. -/
def fnAppendCanonicalLeavesCanonicalAloneWrong : ChangeSpec := { name := "fnAppendCanonicalLeavesCanonicalAlone", fn := fun _ => fun
  | [d1, d2] => { results := [.lit (.bool false)], args := [d1, d2] }
  | _ => none }
def FnAppendCanonicalLeavesCanonicalAloneWrongFalsely : Prop := fnAppendCanonicalLeavesCanonicalAloneRow.holds Try.pinned (OpenSpec.ofChange fnAppendCanonicalLeavesCanonicalAloneWrong)

/-- 'zzlaws_root_b1.FnBoolAppendItemReadsBackByHead': WHATEVER THE INPUT: true; the input reads as it did. -/
def fnBoolAppendItemReadsBackByHeadSpec : ChangeSpec := { name := "fnBoolAppendItemReadsBackByHead", fn := fun _ => fun
  | [d1, d2] => { results := [.lit (.bool true)], args := [d1, d2] }
  | _ => none }
def fnBoolAppendItemReadsBackByHeadRow : OpenClaim := { program := "qxb6604654a", sum := "c65f97344cc1026f85f494526662d547f600327a14f620f958791135ee78a034", func := "example.com/latticework/latticework/zzlaws_root_b1.FnBoolAppendItemReadsBackByHead", spec := "fnBoolAppendItemReadsBackByHead", named := ["encoding/binary.BigEndian"], apart := false }
def FnBoolAppendItemReadsBackByHeadSaid : Prop := fnBoolAppendItemReadsBackByHeadRow.holds Try.pinned (OpenSpec.ofChange fnBoolAppendItemReadsBackByHeadSpec)

/-- ITS FALSE NEIGHBOUR: 'it returns false'. Refute it at one input. -/
def fnBoolAppendItemReadsBackByHeadWrong : ChangeSpec := { name := "fnBoolAppendItemReadsBackByHead", fn := fun _ => fun
  | [d1, d2] => { results := [.lit (.bool false)], args := [d1, d2] }
  | _ => none }
def FnBoolAppendItemReadsBackByHeadWrongFalsely : Prop := fnBoolAppendItemReadsBackByHeadRow.holds Try.pinned (OpenSpec.ofChange fnBoolAppendItemReadsBackByHeadWrong)

/-- 'zzlaws_root_b1.FnBoolItemsFrameAndOrder': WHATEVER THE INPUT: true; the input reads as it did. -/
def fnBoolItemsFrameAndOrderSpec : ChangeSpec := { name := "fnBoolItemsFrameAndOrder", fn := fun _ => fun
  | [d1, d2, d3] => { results := [.lit (.bool true)], args := [d1, d2, d3] }
  | _ => none }
def fnBoolItemsFrameAndOrderRow : OpenClaim := { program := "qxb6604654a", sum := "c65f97344cc1026f85f494526662d547f600327a14f620f958791135ee78a034", func := "example.com/latticework/latticework/zzlaws_root_b1.FnBoolItemsFrameAndOrder", spec := "fnBoolItemsFrameAndOrder", inPlace := ["internal/bytealg.Compare"], unfollowed := true, recurses := true, named := ["encoding/binary.BigEndian"], apart := false }
def FnBoolItemsFrameAndOrderSaid : Prop := fnBoolItemsFrameAndOrderRow.holds Try.pinned (OpenSpec.ofChange fnBoolItemsFrameAndOrderSpec)

/-- ITS FALSE NEIGHBOUR: 'it returns false'. Refute it at one input. -/
def fnBoolItemsFrameAndOrderWrong : ChangeSpec := { name := "fnBoolItemsFrameAndOrder", fn := fun _ => fun
  | [d1, d2, d3] => { results := [.lit (.bool false)], args := [d1, d2, d3] }
  | _ => none }
def FnBoolItemsFrameAndOrderWrongFalsely : Prop := fnBoolItemsFrameAndOrderRow.holds Try.pinned (OpenSpec.ofChange fnBoolItemsFrameAndOrderWrong)

end Rows
end Go.Proofs.Qxb6604654a
