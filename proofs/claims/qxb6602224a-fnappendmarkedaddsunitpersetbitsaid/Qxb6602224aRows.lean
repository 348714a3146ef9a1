/-
  No cell of these rows narrows 'for every input' (looked for: loops, veiled, ifaces, maps, wideKeys, modest, calm, conditions, laid).
  DERIVED. THE GIVEN ROWS OF THIS SEAT. 8 by the template 'for every input the law returns true; each argument reads behind the call as it read before'; 0 by the template 'total and deterministic' (their statements: Qxb6602224aTotals.lean).
  GIVEN WITH THE SEED: the statements are not yours to turn. If you find one false, say at which input.
  Laid BY PROGRAM, IN A SANDBOX (cutbox-rows.mjs): the forced cells as the released guide's own fill.sh prints them over the translation 0ef91b71af68438f… (all of the seat's roots in one cut). By AI agents, Wed Nov 11 2026. No macro, syntax, notation, axiom, sorry.
-/
import Derived.Test.Qxb6602224aChecked
import GoSem.Claim
import GoSem.ClaimJoined
import GoSem.ClaimMapViews
import Derived.JoinedTies
import Derived.KernelRfl
namespace Go.Proofs.Qxb6602224a
/- THE CELL 'sum', in the pinned program and in every row, IS THE sha256 OF THE DUMP (.gsa) THAT Qxb6602224aProg.lean LOADS. Nothing in Lean hashes anything: it is a label: what it is worth is what the hold of that sum in a sandbox is worth. -/
noncomputable def Try.pinned : Pinned := { name := "qxb6602224a", sum := "0ef91b71af68438f24018e3aaab08694317f28fece63eddee1832e231b5fc121", checked := Try.checked }
namespace Rows
def none {H : Type} : Left H := { results := [], args := [] }

/-- 'zzlaws_image_b1.FnPieceSizeForMatchesCeilingModel': WHATEVER THE INPUT: true; the input reads as it did. -/
def fnPieceSizeForMatchesCeilingModelSpec : ChangeSpec := { name := "fnPieceSizeForMatchesCeilingModel", fn := fun _ => fun
  | [d] => { results := [.lit (.bool true)], args := [d] }
  | _ => none }
def fnPieceSizeForMatchesCeilingModelRow : OpenClaim := { program := "qxb6602224a", sum := "0ef91b71af68438f24018e3aaab08694317f28fece63eddee1832e231b5fc121", func := "example.com/murmuration/murmuration/zzlaws_image_b1.FnPieceSizeForMatchesCeilingModel", spec := "fnPieceSizeForMatchesCeilingModel", apart := false }
def FnPieceSizeForMatchesCeilingModelSaid : Prop := fnPieceSizeForMatchesCeilingModelRow.holds Try.pinned (OpenSpec.ofChange fnPieceSizeForMatchesCeilingModelSpec)

/-- ITS FALSE NEIGHBOUR: 'it returns false'. Refute it at one input. -/
def fnPieceSizeForMatchesCeilingModelWrong : ChangeSpec := { name := "fnPieceSizeForMatchesCeilingModel", fn := fun _ => fun
  | [d] => { results := [.lit (.bool false)], args := [d] }
  | _ => none }
def FnPieceSizeForMatchesCeilingModelWrongFalsely : Prop := fnPieceSizeForMatchesCeilingModelRow.holds Try.pinned (OpenSpec.ofChange fnPieceSizeForMatchesCeilingModelWrong)

/-- 'zzlaws_image_b1.FnPieceSizeForIsLeastFittingPower': WHATEVER THE INPUT: true; the input reads as it did. -/
def fnPieceSizeForIsLeastFittingPowerSpec : ChangeSpec := { name := "fnPieceSizeForIsLeastFittingPower", fn := fun _ => fun
  | [d] => { results := [.lit (.bool true)], args := [d] }
  | _ => none }
def fnPieceSizeForIsLeastFittingPowerRow : OpenClaim := { program := "qxb6602224a", sum := "0ef91b71af68438f24018e3aaab08694317f28fece63eddee1832e231b5fc121", func := "example.com/murmuration/murmuration/zzlaws_image_b1.FnPieceSizeForIsLeastFittingPower", spec := "fnPieceSizeForIsLeastFittingPower", apart := false }
def FnPieceSizeForIsLeastFittingPowerSaid : Prop := fnPieceSizeForIsLeastFittingPowerRow.holds Try.pinned (OpenSpec.ofChange fnPieceSizeForIsLeastFittingPowerSpec)

/-- ITS FALSE NEIGHBOUR: 'it returns false'. Refute it at one input. -/
def fnPieceSizeForIsLeastFittingPowerWrong : ChangeSpec := { name := "fnPieceSizeForIsLeastFittingPower", fn := fun _ => fun
  | [d] => { results := [.lit (.bool false)], args := [d] }
  | _ => none }
def FnPieceSizeForIsLeastFittingPowerWrongFalsely : Prop := fnPieceSizeForIsLeastFittingPowerRow.holds Try.pinned (OpenSpec.ofChange fnPieceSizeForIsLeastFittingPowerWrong)

/-- 'zzlaws_image_b1.FnPieceSizeForMonotone': WHATEVER THE INPUT: true; the input reads as it did. -/
def fnPieceSizeForMonotoneSpec : ChangeSpec := { name := "fnPieceSizeForMonotone", fn := fun _ => fun
  | [d1, d2] => { results := [.lit (.bool true)], args := [d1, d2] }
  | _ => none }
def fnPieceSizeForMonotoneRow : OpenClaim := { program := "qxb6602224a", sum := "0ef91b71af68438f24018e3aaab08694317f28fece63eddee1832e231b5fc121", func := "example.com/murmuration/murmuration/zzlaws_image_b1.FnPieceSizeForMonotone", spec := "fnPieceSizeForMonotone", apart := false }
def FnPieceSizeForMonotoneSaid : Prop := fnPieceSizeForMonotoneRow.holds Try.pinned (OpenSpec.ofChange fnPieceSizeForMonotoneSpec)

/-- ITS FALSE NEIGHBOUR: 'it returns false'. Refute it at one input. -/
def fnPieceSizeForMonotoneWrong : ChangeSpec := { name := "fnPieceSizeForMonotone", fn := fun _ => fun
  | [d1, d2] => { results := [.lit (.bool false)], args := [d1, d2] }
  | _ => none }
def FnPieceSizeForMonotoneWrongFalsely : Prop := fnPieceSizeForMonotoneRow.holds Try.pinned (OpenSpec.ofChange fnPieceSizeForMonotoneWrong)

/-- 'zzlaws_image_b1.FnAppendExtentKeepsCanonicalForm': WHATEVER THE INPUT: true; the input reads as it did. -/
def fnAppendExtentKeepsCanonicalFormSpec : ChangeSpec := { name := "fnAppendExtentKeepsCanonicalForm", fn := fun _ => fun
  | [d1, d2, d3] => { results := [.lit (.bool true)], args := [d1, d2, d3] }
  | _ => none }
def fnAppendExtentKeepsCanonicalFormRow : OpenClaim := { program := "qxb6602224a", sum := "0ef91b71af68438f24018e3aaab08694317f28fece63eddee1832e231b5fc121", func := "example.com/murmuration/murmuration/zzlaws_image_b1.FnAppendExtentKeepsCanonicalForm", spec := "fnAppendExtentKeepsCanonicalForm", apart := false }
def FnAppendExtentKeepsCanonicalFormSaid : Prop := fnAppendExtentKeepsCanonicalFormRow.holds Try.pinned (OpenSpec.ofChange fnAppendExtentKeepsCanonicalFormSpec)

/-- ITS FALSE NEIGHBOUR: 'it returns false'. Refute it at one input. -/
def fnAppendExtentKeepsCanonicalFormWrong : ChangeSpec := { name := "fnAppendExtentKeepsCanonicalForm", fn := fun _ => fun
  | [d1, d2, d3] => { results := [.lit (.bool false)], args := [d1, d2, d3] }
  | _ => none }
def FnAppendExtentKeepsCanonicalFormWrongFalsely : Prop := fnAppendExtentKeepsCanonicalFormRow.holds Try.pinned (OpenSpec.ofChange fnAppendExtentKeepsCanonicalFormWrong)

/-- 'zzlaws_image_b1.FnAppendExtentSplitRunJoinsBack': WHATEVER THE INPUT: true; the input reads as it did. -/
def fnAppendExtentSplitRunJoinsBackSpec : ChangeSpec := { name := "fnAppendExtentSplitRunJoinsBack", fn := fun _ => fun
  | [d1, d2, d3, d4] => { results := [.lit (.bool true)], args := [d1, d2, d3, d4] }
  | _ => none }
def fnAppendExtentSplitRunJoinsBackRow : OpenClaim := { program := "qxb6602224a", sum := "0ef91b71af68438f24018e3aaab08694317f28fece63eddee1832e231b5fc121", func := "example.com/murmuration/murmuration/zzlaws_image_b1.FnAppendExtentSplitRunJoinsBack", spec := "fnAppendExtentSplitRunJoinsBack", apart := false }
def FnAppendExtentSplitRunJoinsBackSaid : Prop := fnAppendExtentSplitRunJoinsBackRow.holds Try.pinned (OpenSpec.ofChange fnAppendExtentSplitRunJoinsBackSpec)

/-- ITS FALSE NEIGHBOUR: 'it returns false'. Refute it at one input. -/
def fnAppendExtentSplitRunJoinsBackWrong : ChangeSpec := { name := "fnAppendExtentSplitRunJoinsBack", fn := fun _ => fun
  | [d1, d2, d3, d4] => { results := [.lit (.bool false)], args := [d1, d2, d3, d4] }
  | _ => none }
def FnAppendExtentSplitRunJoinsBackWrongFalsely : Prop := fnAppendExtentSplitRunJoinsBackRow.holds Try.pinned (OpenSpec.ofChange fnAppendExtentSplitRunJoinsBackWrong)

/-- 'zzlaws_image_b1.FnAppendMarkedAgreesWithBitByBit': WHATEVER THE INPUT: true; the input reads as it did. -/
def fnAppendMarkedAgreesWithBitByBitSpec : ChangeSpec := { name := "fnAppendMarkedAgreesWithBitByBit", fn := fun _ => fun
  | [d1, d2, d3, d4, d5] => { results := [.lit (.bool true)], args := [d1, d2, d3, d4, d5] }
  | _ => none }
def fnAppendMarkedAgreesWithBitByBitRow : OpenClaim := { program := "qxb6602224a", sum := "0ef91b71af68438f24018e3aaab08694317f28fece63eddee1832e231b5fc121", func := "example.com/murmuration/murmuration/zzlaws_image_b1.FnAppendMarkedAgreesWithBitByBit", spec := "fnAppendMarkedAgreesWithBitByBit", unfollowed := true, recurses := true, apart := false }
def FnAppendMarkedAgreesWithBitByBitSaid : Prop := fnAppendMarkedAgreesWithBitByBitRow.holds Try.pinned (OpenSpec.ofChange fnAppendMarkedAgreesWithBitByBitSpec)

/-- ITS FALSE NEIGHBOUR: 'it returns false'. Refute it at one input. -/
def fnAppendMarkedAgreesWithBitByBitWrong : ChangeSpec := { name := "fnAppendMarkedAgreesWithBitByBit", fn := fun _ => fun
  | [d1, d2, d3, d4, d5] => { results := [.lit (.bool false)], args := [d1, d2, d3, d4, d5] }
  | _ => none }
def FnAppendMarkedAgreesWithBitByBitWrongFalsely : Prop := fnAppendMarkedAgreesWithBitByBitRow.holds Try.pinned (OpenSpec.ofChange fnAppendMarkedAgreesWithBitByBitWrong)

/-- 'zzlaws_image_b1.FnAppendMarkedSplitsAtByteBoundary': WHATEVER THE INPUT: true; the input reads as it did. -/
def fnAppendMarkedSplitsAtByteBoundarySpec : ChangeSpec := { name := "fnAppendMarkedSplitsAtByteBoundary", fn := fun _ => fun
  | [d1, d2, d3, d4, d5, d6] => { results := [.lit (.bool true)], args := [d1, d2, d3, d4, d5, d6] }
  | _ => none }
def fnAppendMarkedSplitsAtByteBoundaryRow : OpenClaim := { program := "qxb6602224a", sum := "0ef91b71af68438f24018e3aaab08694317f28fece63eddee1832e231b5fc121", func := "example.com/murmuration/murmuration/zzlaws_image_b1.FnAppendMarkedSplitsAtByteBoundary", spec := "fnAppendMarkedSplitsAtByteBoundary", unfollowed := true, recurses := true, apart := false }
def FnAppendMarkedSplitsAtByteBoundarySaid : Prop := fnAppendMarkedSplitsAtByteBoundaryRow.holds Try.pinned (OpenSpec.ofChange fnAppendMarkedSplitsAtByteBoundarySpec)

/-- ITS FALSE NEIGHBOUR: 'it returns false'. Refute it at one input. -/
def fnAppendMarkedSplitsAtByteBoundaryWrong : ChangeSpec := { name := "fnAppendMarkedSplitsAtByteBoundary", fn := fun _ => fun
  | [d1, d2, d3, d4, d5, d6] => { results := [.lit (.bool false)], args := [d1, d2, d3, d4, d5, d6] }
  | _ => none }
def FnAppendMarkedSplitsAtByteBoundaryWrongFalsely : Prop := fnAppendMarkedSplitsAtByteBoundaryRow.holds Try.pinned (OpenSpec.ofChange fnAppendMarkedSplitsAtByteBoundaryWrong)

/-- 'zzlaws_image_b1.FnAppendMarkedAddsUnitPerSetBit': WHATEVER THE INPUT: true; the input reads as it did. -/
def fnAppendMarkedAddsUnitPerSetBitSpec : ChangeSpec := { name := "fnAppendMarkedAddsUnitPerSetBit", fn := fun _ => fun
  | [d1, d2, d3, d4, d5] => { results := [.lit (.bool true)], args := [d1, d2, d3, d4, d5] }
  | _ => none }
def fnAppendMarkedAddsUnitPerSetBitRow : OpenClaim := { program := "qxb6602224a", sum := "0ef91b71af68438f24018e3aaab08694317f28fece63eddee1832e231b5fc121", func := "example.com/murmuration/murmuration/zzlaws_image_b1.FnAppendMarkedAddsUnitPerSetBit", spec := "fnAppendMarkedAddsUnitPerSetBit", unfollowed := true, recurses := true, apart := false }
def FnAppendMarkedAddsUnitPerSetBitSaid : Prop := fnAppendMarkedAddsUnitPerSetBitRow.holds Try.pinned (OpenSpec.ofChange fnAppendMarkedAddsUnitPerSetBitSpec)

/-- ITS FALSE NEIGHBOUR: 'it returns false'. Refute it at one input. -/
def fnAppendMarkedAddsUnitPerSetBitWrong : ChangeSpec := { name := "fnAppendMarkedAddsUnitPerSetBit", fn := fun _ => fun
  | [d1, d2, d3, d4, d5] => { results := [.lit (.bool false)], args := [d1, d2, d3, d4, d5] }
  | _ => none }
def FnAppendMarkedAddsUnitPerSetBitWrongFalsely : Prop := fnAppendMarkedAddsUnitPerSetBitRow.holds Try.pinned (OpenSpec.ofChange fnAppendMarkedAddsUnitPerSetBitWrong)

end Rows
end Go.Proofs.Qxb6602224a
