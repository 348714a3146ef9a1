/-
  No cell of these rows narrows 'for every input' (looked for: loops, veiled, ifaces, maps, wideKeys, modest, calm, conditions, laid).
  DERIVED. THE GIVEN ROWS OF THIS SEAT. 4 by the template 'for every input the law returns true; each argument reads behind the call as it read before'; 0 by the template 'total and deterministic' (their statements: Qxb6602194aTotals.lean).
  GIVEN WITH THE SEED: the statements are not yours to turn. If you find one false, say at which input.
  Laid BY PROGRAM, IN A SANDBOX (cutbox-rows.mjs): the forced cells as the released guide's own fill.sh prints them over the translation e3d4275a21eb73dc… (all of the seat's roots in one cut). By AI agents, Wed Nov 11 2026. No macro, syntax, notation, axiom, sorry.
-/
import Derived.Test.Qxb6602194aChecked
import GoSem.Claim
import GoSem.ClaimJoined
import GoSem.ClaimMapViews
import Derived.JoinedTies
import Derived.KernelRfl
namespace Go.Proofs.Qxb6602194a
/- THE CELL 'sum', in the pinned program and in every row, IS THE sha256 OF THE DUMP (.gsa) THAT Qxb6602194aProg.lean LOADS. Nothing in Lean hashes anything: it is a label: what it is worth is what the hold of that sum in a sandbox is worth. -/
noncomputable def Try.pinned : Pinned := { name := "qxb6602194a", sum := "e3d4275a21eb73dc4409d762036004431059dbf0afbfb1da51033922178bdd27", checked := Try.checked }
namespace Rows
def none {H : Type} : Left H := { results := [], args := [] }

/-- 'zzlaws_exact_b1.FnAppendFixedMatchesRightToLeftModel': WHATEVER THE INPUT: true; the input reads as it did. -/
def fnAppendFixedMatchesRightToLeftModelSpec : ChangeSpec := { name := "fnAppendFixedMatchesRightToLeftModel", fn := fun _ => fun
  | [d1, d2, d3, d4] => { results := [.lit (.bool true)], args := [d1, d2, d3, d4] }
  | _ => none }
def fnAppendFixedMatchesRightToLeftModelRow : OpenClaim := { program := "qxb6602194a", sum := "e3d4275a21eb73dc4409d762036004431059dbf0afbfb1da51033922178bdd27", func := "example.com/qiyue/qiyue/zzlaws_exact_b1.FnAppendFixedMatchesRightToLeftModel", spec := "fnAppendFixedMatchesRightToLeftModel", apart := false }
def FnAppendFixedMatchesRightToLeftModelSaid : Prop := fnAppendFixedMatchesRightToLeftModelRow.holds Try.pinned (OpenSpec.ofChange fnAppendFixedMatchesRightToLeftModelSpec)

/-- ITS FALSE NEIGHBOUR: 'it returns false'. Refute it at one input. -/
def fnAppendFixedMatchesRightToLeftModelWrong : ChangeSpec := { name := "fnAppendFixedMatchesRightToLeftModel", fn := fun _ => fun
  | [d1, d2, d3, d4] => { results := [.lit (.bool false)], args := [d1, d2, d3, d4] }
  | _ => none }
def FnAppendFixedMatchesRightToLeftModelWrongFalsely : Prop := fnAppendFixedMatchesRightToLeftModelRow.holds Try.pinned (OpenSpec.ofChange fnAppendFixedMatchesRightToLeftModelWrong)

/-- 'zzlaws_exact_b1.FnAppendFixedKeepsDstAsPrefix': WHATEVER THE INPUT: true; the input reads as it did. -/
def fnAppendFixedKeepsDstAsPrefixSpec : ChangeSpec := { name := "fnAppendFixedKeepsDstAsPrefix", fn := fun _ => fun
  | [d1, d2, d3, d4] => { results := [.lit (.bool true)], args := [d1, d2, d3, d4] }
  | _ => none }
def fnAppendFixedKeepsDstAsPrefixRow : OpenClaim := { program := "qxb6602194a", sum := "e3d4275a21eb73dc4409d762036004431059dbf0afbfb1da51033922178bdd27", func := "example.com/qiyue/qiyue/zzlaws_exact_b1.FnAppendFixedKeepsDstAsPrefix", spec := "fnAppendFixedKeepsDstAsPrefix", apart := false }
def FnAppendFixedKeepsDstAsPrefixSaid : Prop := fnAppendFixedKeepsDstAsPrefixRow.holds Try.pinned (OpenSpec.ofChange fnAppendFixedKeepsDstAsPrefixSpec)

/-- ITS FALSE NEIGHBOUR: 'it returns false'. Refute it at one input. -/
def fnAppendFixedKeepsDstAsPrefixWrong : ChangeSpec := { name := "fnAppendFixedKeepsDstAsPrefix", fn := fun _ => fun
  | [d1, d2, d3, d4] => { results := [.lit (.bool false)], args := [d1, d2, d3, d4] }
  | _ => none }
def FnAppendFixedKeepsDstAsPrefixWrongFalsely : Prop := fnAppendFixedKeepsDstAsPrefixRow.holds Try.pinned (OpenSpec.ofChange fnAppendFixedKeepsDstAsPrefixWrong)

/-- 'zzlaws_exact_b1.FnAllDigitsMatchesMembershipModel': WHATEVER THE INPUT: true; the input reads as it did. -/
def fnAllDigitsMatchesMembershipModelSpec : ChangeSpec := { name := "fnAllDigitsMatchesMembershipModel", fn := fun _ => fun
  | [d] => { results := [.lit (.bool true)], args := [d] }
  | _ => none }
def fnAllDigitsMatchesMembershipModelRow : OpenClaim := { program := "qxb6602194a", sum := "e3d4275a21eb73dc4409d762036004431059dbf0afbfb1da51033922178bdd27", func := "example.com/qiyue/qiyue/zzlaws_exact_b1.FnAllDigitsMatchesMembershipModel", spec := "fnAllDigitsMatchesMembershipModel", apart := false }
def FnAllDigitsMatchesMembershipModelSaid : Prop := fnAllDigitsMatchesMembershipModelRow.holds Try.pinned (OpenSpec.ofChange fnAllDigitsMatchesMembershipModelSpec)

/-- ITS FALSE NEIGHBOUR: 'it returns false'. Refute it at one input. -/
def fnAllDigitsMatchesMembershipModelWrong : ChangeSpec := { name := "fnAllDigitsMatchesMembershipModel", fn := fun _ => fun
  | [d] => { results := [.lit (.bool false)], args := [d] }
  | _ => none }
def FnAllDigitsMatchesMembershipModelWrongFalsely : Prop := fnAllDigitsMatchesMembershipModelRow.holds Try.pinned (OpenSpec.ofChange fnAllDigitsMatchesMembershipModelWrong)

/-- 'zzlaws_exact_b1.FnAllDigitsOfConcatenation': WHATEVER THE INPUT: true; the input reads as it did. -/
def fnAllDigitsOfConcatenationSpec : ChangeSpec := { name := "fnAllDigitsOfConcatenation", fn := fun _ => fun
  | [d1, d2] => { results := [.lit (.bool true)], args := [d1, d2] }
  | _ => none }
def fnAllDigitsOfConcatenationRow : OpenClaim := { program := "qxb6602194a", sum := "e3d4275a21eb73dc4409d762036004431059dbf0afbfb1da51033922178bdd27", func := "example.com/qiyue/qiyue/zzlaws_exact_b1.FnAllDigitsOfConcatenation", spec := "fnAllDigitsOfConcatenation", apart := false }
def FnAllDigitsOfConcatenationSaid : Prop := fnAllDigitsOfConcatenationRow.holds Try.pinned (OpenSpec.ofChange fnAllDigitsOfConcatenationSpec)

/-- ITS FALSE NEIGHBOUR: 'it returns false'. Refute it at one input. -/
def fnAllDigitsOfConcatenationWrong : ChangeSpec := { name := "fnAllDigitsOfConcatenation", fn := fun _ => fun
  | [d1, d2] => { results := [.lit (.bool false)], args := [d1, d2] }
  | _ => none }
def FnAllDigitsOfConcatenationWrongFalsely : Prop := fnAllDigitsOfConcatenationRow.holds Try.pinned (OpenSpec.ofChange fnAllDigitsOfConcatenationWrong)

end Rows
end Go.Proofs.Qxb6602194a
