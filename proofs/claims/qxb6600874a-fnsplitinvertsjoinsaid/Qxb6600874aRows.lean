/-
  No cell of these rows narrows 'for every input' (looked for: loops, veiled, ifaces, maps, wideKeys, modest, calm, conditions, laid).
  DERIVED. THE GIVEN ROWS OF THIS SEAT. 4 by the template 'for every input the law returns true; each argument reads behind the call as it read before'; 0 by the template 'total and deterministic' (their statements: Qxb6600874aTotals.lean).
  GIVEN WITH THE SEED: the statements are not yours to turn. If you find one false, say at which input.
  Laid BY PROGRAM, IN A SANDBOX (cutbox-rows.mjs): the forced cells as the released guide's own fill.sh prints them over the translation 616154d17b076326… (all of the seat's roots in one cut). By AI agents, Wed Nov 11 2026. No macro, syntax, notation, axiom, sorry.
-/
import Derived.Test.Qxb6600874aChecked
import GoSem.Claim
import GoSem.ClaimJoined
import GoSem.ClaimMapViews
import Derived.JoinedTies
import Derived.KernelRfl
namespace Go.Proofs.Qxb6600874a
/- THE CELL 'sum', in the pinned program and in every row, IS THE sha256 OF THE DUMP (.gsa) THAT Qxb6600874aProg.lean LOADS. Nothing in Lean hashes anything: it is a label: what it is worth is what the hold of that sum in a sandbox is worth. -/
noncomputable def Try.pinned : Pinned := { name := "qxb6600874a", sum := "616154d17b076326588b69be58b4d6bf68fa2eacac626d025680b3841fec7ff2", checked := Try.checked }
namespace Rows
def none {H : Type} : Left H := { results := [], args := [] }

/-- 'zzlaws_number_b1.FnAllDigitsOfConcatenation': WHATEVER THE INPUT: true; the input reads as it did. -/
def fnAllDigitsOfConcatenationSpec : ChangeSpec := { name := "fnAllDigitsOfConcatenation", fn := fun _ => fun
  | [d1, d2] => { results := [.lit (.bool true)], args := [d1, d2] }
  | _ => none }
def fnAllDigitsOfConcatenationRow : OpenClaim := { program := "qxb6600874a", sum := "616154d17b076326588b69be58b4d6bf68fa2eacac626d025680b3841fec7ff2", func := "example.com/tuoguan/tuoguan/zzlaws_number_b1.FnAllDigitsOfConcatenation", spec := "fnAllDigitsOfConcatenation", apart := false }
def FnAllDigitsOfConcatenationSaid : Prop := fnAllDigitsOfConcatenationRow.holds Try.pinned (OpenSpec.ofChange fnAllDigitsOfConcatenationSpec)

/-- ITS FALSE NEIGHBOUR: 'it returns false'. Refute it at one input. -/
def fnAllDigitsOfConcatenationWrong : ChangeSpec := { name := "fnAllDigitsOfConcatenation", fn := fun _ => fun
  | [d1, d2] => { results := [.lit (.bool false)], args := [d1, d2] }
  | _ => none }
def FnAllDigitsOfConcatenationWrongFalsely : Prop := fnAllDigitsOfConcatenationRow.holds Try.pinned (OpenSpec.ofChange fnAllDigitsOfConcatenationWrong)

/-- 'zzlaws_number_b1.FnSplitAgreesWithScanner': WHATEVER THE INPUT: true; the input reads as it did. -/
def fnSplitAgreesWithScannerSpec : ChangeSpec := { name := "fnSplitAgreesWithScanner", fn := fun _ => fun
  | [d] => { results := [.lit (.bool true)], args := [d] }
  | _ => none }
def fnSplitAgreesWithScannerRow : OpenClaim := { program := "qxb6600874a", sum := "616154d17b076326588b69be58b4d6bf68fa2eacac626d025680b3841fec7ff2", func := "example.com/tuoguan/tuoguan/zzlaws_number_b1.FnSplitAgreesWithScanner", spec := "fnSplitAgreesWithScanner", inPlace := ["internal/bytealg.IndexByteString", "internal/bytealg.IndexString"], named := ["internal/bytealg.MaxLen"], apart := false }
def FnSplitAgreesWithScannerSaid : Prop := fnSplitAgreesWithScannerRow.holds Try.pinned (OpenSpec.ofChange fnSplitAgreesWithScannerSpec)

/-- ITS FALSE NEIGHBOUR: 'it returns false'. Refute it at one input. -/
def fnSplitAgreesWithScannerWrong : ChangeSpec := { name := "fnSplitAgreesWithScanner", fn := fun _ => fun
  | [d] => { results := [.lit (.bool false)], args := [d] }
  | _ => none }
def FnSplitAgreesWithScannerWrongFalsely : Prop := fnSplitAgreesWithScannerRow.holds Try.pinned (OpenSpec.ofChange fnSplitAgreesWithScannerWrong)

/-- 'zzlaws_number_b1.FnSplitInvertsJoin': WHATEVER THE INPUT: true; the input reads as it did. -/
def fnSplitInvertsJoinSpec : ChangeSpec := { name := "fnSplitInvertsJoin", fn := fun _ => fun
  | [d1, d2, d3] => { results := [.lit (.bool true)], args := [d1, d2, d3] }
  | _ => none }
def fnSplitInvertsJoinRow : OpenClaim := { program := "qxb6600874a", sum := "616154d17b076326588b69be58b4d6bf68fa2eacac626d025680b3841fec7ff2", func := "example.com/tuoguan/tuoguan/zzlaws_number_b1.FnSplitInvertsJoin", spec := "fnSplitInvertsJoin", inPlace := ["internal/bytealg.IndexByteString", "internal/bytealg.IndexString"], named := ["internal/bytealg.MaxLen"], apart := false }
def FnSplitInvertsJoinSaid : Prop := fnSplitInvertsJoinRow.holds Try.pinned (OpenSpec.ofChange fnSplitInvertsJoinSpec)

/-- ITS FALSE NEIGHBOUR: 'it returns false'. Refute it at one input. -/
def fnSplitInvertsJoinWrong : ChangeSpec := { name := "fnSplitInvertsJoin", fn := fun _ => fun
  | [d1, d2, d3] => { results := [.lit (.bool false)], args := [d1, d2, d3] }
  | _ => none }
def FnSplitInvertsJoinWrongFalsely : Prop := fnSplitInvertsJoinRow.holds Try.pinned (OpenSpec.ofChange fnSplitInvertsJoinWrong)

/-- 'zzlaws_number_b1.FnSplitIgnoresOneLeadingMinus': WHATEVER THE INPUT: true; the input reads as it did. -/
def fnSplitIgnoresOneLeadingMinusSpec : ChangeSpec := { name := "fnSplitIgnoresOneLeadingMinus", fn := fun _ => fun
  | [d] => { results := [.lit (.bool true)], args := [d] }
  | _ => none }
def fnSplitIgnoresOneLeadingMinusRow : OpenClaim := { program := "qxb6600874a", sum := "616154d17b076326588b69be58b4d6bf68fa2eacac626d025680b3841fec7ff2", func := "example.com/tuoguan/tuoguan/zzlaws_number_b1.FnSplitIgnoresOneLeadingMinus", spec := "fnSplitIgnoresOneLeadingMinus", inPlace := ["internal/bytealg.IndexByteString", "internal/bytealg.IndexString"], named := ["internal/bytealg.MaxLen"], apart := false }
def FnSplitIgnoresOneLeadingMinusSaid : Prop := fnSplitIgnoresOneLeadingMinusRow.holds Try.pinned (OpenSpec.ofChange fnSplitIgnoresOneLeadingMinusSpec)

/-- ITS FALSE NEIGHBOUR: 'it returns false'. Refute it at one input. -/
def fnSplitIgnoresOneLeadingMinusWrong : ChangeSpec := { name := "fnSplitIgnoresOneLeadingMinus", fn := fun _ => fun
  | [d] => { results := [.lit (.bool false)], args := [d] }
  | _ => none }
def FnSplitIgnoresOneLeadingMinusWrongFalsely : Prop := fnSplitIgnoresOneLeadingMinusRow.holds Try.pinned (OpenSpec.ofChange fnSplitIgnoresOneLeadingMinusWrong)

end Rows
end Go.Proofs.Qxb6600874a
