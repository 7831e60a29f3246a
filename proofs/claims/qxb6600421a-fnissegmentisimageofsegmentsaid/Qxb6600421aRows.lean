/-
  No cell of these rows narrows 'for every input' (looked for: loops, veiled, ifaces, maps, wideKeys, modest, calm, conditions, laid).
  DERIVED. THE GIVEN ROWS OF THIS SEAT. 8 by the template 'for every input the law returns true; each argument reads behind the call as it read before'; 0 by the template 'total and deterministic' (their statements: Qxb6600421aTotals.lean).
  GIVEN WITH THE SEED: the statements are not yours to turn. If you find one false, say at which input.
  Laid BY PROGRAM, IN A SANDBOX (cutbox-rows.mjs): the forced cells as the released guide's own fill.sh prints them over the translation c8c077ae89cc7e31… (all of the seat's roots in one cut). By AI agents, Wed Nov 11 2026. No macro, syntax, notation, axiom, sorry.
-/
import Derived.Test.Qxb6600421aChecked
import GoSem.Claim
import GoSem.ClaimJoined
import GoSem.ClaimMapViews
import Derived.JoinedTies
import Derived.KernelRfl
namespace Go.Proofs.Qxb6600421a
/- THE CELL 'sum', in the pinned program and in every row, IS THE sha256 OF THE DUMP (.gsa) THAT Qxb6600421aProg.lean LOADS. Nothing in Lean hashes anything: it is a label: what it is worth is what the hold of that sum in a sandbox is worth. -/
noncomputable def Try.pinned : Pinned := { name := "qxb6600421a", sum := "c8c077ae89cc7e313731556b886c70a252f8062acd89ecbbcaeed582ee136557", checked := Try.checked }
namespace Rows
def none {H : Type} : Left H := { results := [], args := [] }

/-- 'zzlaws_internal_vpath_b1.FnSegmentThenNameIsIdentity': WHATEVER THE INPUT: true; the input reads as it did. -/
def fnSegmentThenNameIsIdentitySpec : ChangeSpec := { name := "fnSegmentThenNameIsIdentity", fn := fun _ => fun
  | [d] => { results := [.lit (.bool true)], args := [d] }
  | _ => none }
def fnSegmentThenNameIsIdentityRow : OpenClaim := { program := "qxb6600421a", sum := "c8c077ae89cc7e313731556b886c70a252f8062acd89ecbbcaeed582ee136557", func := "example.com/driftline/driftline/zzlaws_internal_vpath_b1.FnSegmentThenNameIsIdentity", spec := "fnSegmentThenNameIsIdentity", inPlace := ["internal/bytealg.IndexByteString", "internal/bytealg.IndexString"], named := ["internal/bytealg.MaxLen"], apart := false }
def FnSegmentThenNameIsIdentitySaid : Prop := fnSegmentThenNameIsIdentityRow.holds Try.pinned (OpenSpec.ofChange fnSegmentThenNameIsIdentitySpec)

/-- ITS FALSE NEIGHBOUR: 'it returns false'. Refute it at one input. -/
def fnSegmentThenNameIsIdentityWrong : ChangeSpec := { name := "fnSegmentThenNameIsIdentity", fn := fun _ => fun
  | [d] => { results := [.lit (.bool false)], args := [d] }
  | _ => none }
def FnSegmentThenNameIsIdentityWrongFalsely : Prop := fnSegmentThenNameIsIdentityRow.holds Try.pinned (OpenSpec.ofChange fnSegmentThenNameIsIdentityWrong)

/-- 'zzlaws_internal_vpath_b1.FnSegmentOfConcatenation': WHATEVER THE INPUT: true; the input reads as it did. -/
def fnSegmentOfConcatenationSpec : ChangeSpec := { name := "fnSegmentOfConcatenation", fn := fun _ => fun
  | [d1, d2] => { results := [.lit (.bool true)], args := [d1, d2] }
  | _ => none }
def fnSegmentOfConcatenationRow : OpenClaim := { program := "qxb6600421a", sum := "c8c077ae89cc7e313731556b886c70a252f8062acd89ecbbcaeed582ee136557", func := "example.com/driftline/driftline/zzlaws_internal_vpath_b1.FnSegmentOfConcatenation", spec := "fnSegmentOfConcatenation", apart := false }
def FnSegmentOfConcatenationSaid : Prop := fnSegmentOfConcatenationRow.holds Try.pinned (OpenSpec.ofChange fnSegmentOfConcatenationSpec)

/-- ITS FALSE NEIGHBOUR: 'it returns false'. Refute it at one input. -/
def fnSegmentOfConcatenationWrong : ChangeSpec := { name := "fnSegmentOfConcatenation", fn := fun _ => fun
  | [d1, d2] => { results := [.lit (.bool false)], args := [d1, d2] }
  | _ => none }
def FnSegmentOfConcatenationWrongFalsely : Prop := fnSegmentOfConcatenationRow.holds Try.pinned (OpenSpec.ofChange fnSegmentOfConcatenationWrong)

/-- 'zzlaws_internal_vpath_b1.FnNameMatchesEscapeModel': WHATEVER THE INPUT: true; the input reads as it did. -/
def fnNameMatchesEscapeModelSpec : ChangeSpec := { name := "fnNameMatchesEscapeModel", fn := fun _ => fun
  | [d] => { results := [.lit (.bool true)], args := [d] }
  | _ => none }
def fnNameMatchesEscapeModelRow : OpenClaim := { program := "qxb6600421a", sum := "c8c077ae89cc7e313731556b886c70a252f8062acd89ecbbcaeed582ee136557", func := "example.com/driftline/driftline/zzlaws_internal_vpath_b1.FnNameMatchesEscapeModel", spec := "fnNameMatchesEscapeModel", inPlace := ["internal/bytealg.IndexByteString", "internal/bytealg.IndexString"], named := ["internal/bytealg.MaxLen"], apart := false }
def FnNameMatchesEscapeModelSaid : Prop := fnNameMatchesEscapeModelRow.holds Try.pinned (OpenSpec.ofChange fnNameMatchesEscapeModelSpec)

/-- ITS FALSE NEIGHBOUR: 'it returns false'. Refute it at one input. -/
def fnNameMatchesEscapeModelWrong : ChangeSpec := { name := "fnNameMatchesEscapeModel", fn := fun _ => fun
  | [d] => { results := [.lit (.bool false)], args := [d] }
  | _ => none }
def FnNameMatchesEscapeModelWrongFalsely : Prop := fnNameMatchesEscapeModelRow.holds Try.pinned (OpenSpec.ofChange fnNameMatchesEscapeModelWrong)

/-- 'zzlaws_internal_vpath_b1.FnNameThenSegmentIsIdentityOnSegments': WHATEVER THE INPUT: true; the input reads as it did. -/
def fnNameThenSegmentIsIdentityOnSegmentsSpec : ChangeSpec := { name := "fnNameThenSegmentIsIdentityOnSegments", fn := fun _ => fun
  | [d] => { results := [.lit (.bool true)], args := [d] }
  | _ => none }
def fnNameThenSegmentIsIdentityOnSegmentsRow : OpenClaim := { program := "qxb6600421a", sum := "c8c077ae89cc7e313731556b886c70a252f8062acd89ecbbcaeed582ee136557", func := "example.com/driftline/driftline/zzlaws_internal_vpath_b1.FnNameThenSegmentIsIdentityOnSegments", spec := "fnNameThenSegmentIsIdentityOnSegments", inPlace := ["internal/bytealg.IndexByteString", "internal/bytealg.IndexString"], named := ["internal/bytealg.MaxLen"], apart := false }
def FnNameThenSegmentIsIdentityOnSegmentsSaid : Prop := fnNameThenSegmentIsIdentityOnSegmentsRow.holds Try.pinned (OpenSpec.ofChange fnNameThenSegmentIsIdentityOnSegmentsSpec)

/-- ITS FALSE NEIGHBOUR: 'it returns false'. Refute it at one input. -/
def fnNameThenSegmentIsIdentityOnSegmentsWrong : ChangeSpec := { name := "fnNameThenSegmentIsIdentityOnSegments", fn := fun _ => fun
  | [d] => { results := [.lit (.bool false)], args := [d] }
  | _ => none }
def FnNameThenSegmentIsIdentityOnSegmentsWrongFalsely : Prop := fnNameThenSegmentIsIdentityOnSegmentsRow.holds Try.pinned (OpenSpec.ofChange fnNameThenSegmentIsIdentityOnSegmentsWrong)

/-- 'zzlaws_internal_vpath_b1.FnNameOfConcatenation': WHATEVER THE INPUT: true; the input reads as it did. -/
def fnNameOfConcatenationSpec : ChangeSpec := { name := "fnNameOfConcatenation", fn := fun _ => fun
  | [d1, d2] => { results := [.lit (.bool true)], args := [d1, d2] }
  | _ => none }
def fnNameOfConcatenationRow : OpenClaim := { program := "qxb6600421a", sum := "c8c077ae89cc7e313731556b886c70a252f8062acd89ecbbcaeed582ee136557", func := "example.com/driftline/driftline/zzlaws_internal_vpath_b1.FnNameOfConcatenation", spec := "fnNameOfConcatenation", inPlace := ["internal/bytealg.IndexByteString", "internal/bytealg.IndexString"], named := ["internal/bytealg.MaxLen"], apart := false }
def FnNameOfConcatenationSaid : Prop := fnNameOfConcatenationRow.holds Try.pinned (OpenSpec.ofChange fnNameOfConcatenationSpec)

/-- ITS FALSE NEIGHBOUR: 'it returns false'. Refute it at one input. -/
def fnNameOfConcatenationWrong : ChangeSpec := { name := "fnNameOfConcatenation", fn := fun _ => fun
  | [d1, d2] => { results := [.lit (.bool false)], args := [d1, d2] }
  | _ => none }
def FnNameOfConcatenationWrongFalsely : Prop := fnNameOfConcatenationRow.holds Try.pinned (OpenSpec.ofChange fnNameOfConcatenationWrong)

/-- 'zzlaws_internal_vpath_b1.FnIsSegmentIsImageOfSegment': WHATEVER THE INPUT: true; the input reads as it did. -/
def fnIsSegmentIsImageOfSegmentSpec : ChangeSpec := { name := "fnIsSegmentIsImageOfSegment", fn := fun _ => fun
  | [d] => { results := [.lit (.bool true)], args := [d] }
  | _ => none }
def fnIsSegmentIsImageOfSegmentRow : OpenClaim := { program := "qxb6600421a", sum := "c8c077ae89cc7e313731556b886c70a252f8062acd89ecbbcaeed582ee136557", func := "example.com/driftline/driftline/zzlaws_internal_vpath_b1.FnIsSegmentIsImageOfSegment", spec := "fnIsSegmentIsImageOfSegment", inPlace := ["internal/bytealg.IndexByteString", "internal/bytealg.IndexString"], named := ["internal/bytealg.MaxLen"], apart := false }
def FnIsSegmentIsImageOfSegmentSaid : Prop := fnIsSegmentIsImageOfSegmentRow.holds Try.pinned (OpenSpec.ofChange fnIsSegmentIsImageOfSegmentSpec)

/-- ITS FALSE NEIGHBOUR: 'it returns false'. Refute it at one input. -/
def fnIsSegmentIsImageOfSegmentWrong : ChangeSpec := { name := "fnIsSegmentIsImageOfSegment", fn := fun _ => fun
  | [d] => { results := [.lit (.bool false)], args := [d] }
  | _ => none }
def FnIsSegmentIsImageOfSegmentWrongFalsely : Prop := fnIsSegmentIsImageOfSegmentRow.holds Try.pinned (OpenSpec.ofChange fnIsSegmentIsImageOfSegmentWrong)

/-- 'zzlaws_internal_vpath_b1.FnIsSegmentOfSegment': WHATEVER THE INPUT: true; the input reads as it did. -/
def fnIsSegmentOfSegmentSpec : ChangeSpec := { name := "fnIsSegmentOfSegment", fn := fun _ => fun
  | [d] => { results := [.lit (.bool true)], args := [d] }
  | _ => none }
def fnIsSegmentOfSegmentRow : OpenClaim := { program := "qxb6600421a", sum := "c8c077ae89cc7e313731556b886c70a252f8062acd89ecbbcaeed582ee136557", func := "example.com/driftline/driftline/zzlaws_internal_vpath_b1.FnIsSegmentOfSegment", spec := "fnIsSegmentOfSegment", inPlace := ["internal/bytealg.IndexByteString"], apart := false }
def FnIsSegmentOfSegmentSaid : Prop := fnIsSegmentOfSegmentRow.holds Try.pinned (OpenSpec.ofChange fnIsSegmentOfSegmentSpec)

/-- ITS FALSE NEIGHBOUR: 'it returns false'. Refute it at one input. -/
def fnIsSegmentOfSegmentWrong : ChangeSpec := { name := "fnIsSegmentOfSegment", fn := fun _ => fun
  | [d] => { results := [.lit (.bool false)], args := [d] }
  | _ => none }
def FnIsSegmentOfSegmentWrongFalsely : Prop := fnIsSegmentOfSegmentRow.holds Try.pinned (OpenSpec.ofChange fnIsSegmentOfSegmentWrong)

/-- 'zzlaws_internal_vpath_b1.FnIsSegmentClosedUnderConcatenation': WHATEVER THE INPUT: true; the input reads as it did. -/
def fnIsSegmentClosedUnderConcatenationSpec : ChangeSpec := { name := "fnIsSegmentClosedUnderConcatenation", fn := fun _ => fun
  | [d1, d2] => { results := [.lit (.bool true)], args := [d1, d2] }
  | _ => none }
def fnIsSegmentClosedUnderConcatenationRow : OpenClaim := { program := "qxb6600421a", sum := "c8c077ae89cc7e313731556b886c70a252f8062acd89ecbbcaeed582ee136557", func := "example.com/driftline/driftline/zzlaws_internal_vpath_b1.FnIsSegmentClosedUnderConcatenation", spec := "fnIsSegmentClosedUnderConcatenation", inPlace := ["internal/bytealg.IndexByteString"], apart := false }
def FnIsSegmentClosedUnderConcatenationSaid : Prop := fnIsSegmentClosedUnderConcatenationRow.holds Try.pinned (OpenSpec.ofChange fnIsSegmentClosedUnderConcatenationSpec)

/-- ITS FALSE NEIGHBOUR: 'it returns false'. Refute it at one input. -/
def fnIsSegmentClosedUnderConcatenationWrong : ChangeSpec := { name := "fnIsSegmentClosedUnderConcatenation", fn := fun _ => fun
  | [d1, d2] => { results := [.lit (.bool false)], args := [d1, d2] }
  | _ => none }
def FnIsSegmentClosedUnderConcatenationWrongFalsely : Prop := fnIsSegmentClosedUnderConcatenationRow.holds Try.pinned (OpenSpec.ofChange fnIsSegmentClosedUnderConcatenationWrong)

end Rows
end Go.Proofs.Qxb6600421a
