/-
  No cell of these rows narrows 'for every input' (looked for: loops, veiled, ifaces, maps, wideKeys, modest, calm, conditions, laid).
  DERIVED. THE GIVEN ROWS OF THIS SEAT. 8 by the template 'for every input the law returns true; each argument reads behind the call as it read before'; 0 by the template 'total and deterministic' (their statements: Qxb6601350aTotals.lean).
  GIVEN WITH THE SEED: the statements are not yours to turn. If you find one false, say at which input.
  Laid BY PROGRAM, IN A SANDBOX (cutbox-rows.mjs): the forced cells as the released guide's own fill.sh prints them over the translation eee558d8fc505a29… (all of the seat's roots in one cut). By AI agents, Wed Nov 11 2026. No macro, syntax, notation, axiom, sorry.
-/
import Derived.Test.Qxb6601350aChecked
import GoSem.Claim
import GoSem.ClaimJoined
import GoSem.ClaimMapViews
import Derived.JoinedTies
import Derived.KernelRfl
namespace Go.Proofs.Qxb6601350a
/- THE CELL 'sum', in the pinned program and in every row, IS THE sha256 OF THE DUMP (.gsa) THAT Qxb6601350aProg.lean LOADS. Nothing in Lean hashes anything: it is a label: what it is worth is what the hold of that sum in a sandbox is worth. -/
noncomputable def Try.pinned : Pinned := { name := "qxb6601350a", sum := "eee558d8fc505a29c1eb801a7af53b995be00ab3e8a21bc6711321fe16c31fef", checked := Try.checked }
namespace Rows
def none {H : Type} : Left H := { results := [], args := [] }

/-- 'zzlaws_pkg_policy_b1.FnParseDecimalMatchesModel': WHATEVER THE INPUT: true; the input reads as it did. -/
def fnParseDecimalMatchesModelSpec : ChangeSpec := { name := "fnParseDecimalMatchesModel", fn := fun _ => fun
  | [d] => { results := [.lit (.bool true)], args := [d] }
  | _ => none }
def fnParseDecimalMatchesModelRow : OpenClaim := { program := "qxb6601350a", sum := "eee558d8fc505a29c1eb801a7af53b995be00ab3e8a21bc6711321fe16c31fef", func := "example.com/shellwright/shellwright/zzlaws_pkg_policy_b1.FnParseDecimalMatchesModel", spec := "fnParseDecimalMatchesModel", apart := false }
def FnParseDecimalMatchesModelSaid : Prop := fnParseDecimalMatchesModelRow.holds Try.pinned (OpenSpec.ofChange fnParseDecimalMatchesModelSpec)

/-- ITS FALSE NEIGHBOUR: 'it returns false'. Refute it at one input. -/
def fnParseDecimalMatchesModelWrong : ChangeSpec := { name := "fnParseDecimalMatchesModel", fn := fun _ => fun
  | [d] => { results := [.lit (.bool false)], args := [d] }
  | _ => none }
def FnParseDecimalMatchesModelWrongFalsely : Prop := fnParseDecimalMatchesModelRow.holds Try.pinned (OpenSpec.ofChange fnParseDecimalMatchesModelWrong)

/-- 'zzlaws_pkg_policy_b1.FnMarkBracketsMatchesModel': WHATEVER THE INPUT: true; the input reads as it did. -/
def fnMarkBracketsMatchesModelSpec : ChangeSpec := { name := "fnMarkBracketsMatchesModel", fn := fun _ => fun
  | [d1, d2, d3] => { results := [.lit (.bool true)], args := [d1, d2, d3] }
  | _ => none }
def fnMarkBracketsMatchesModelRow : OpenClaim := { program := "qxb6601350a", sum := "eee558d8fc505a29c1eb801a7af53b995be00ab3e8a21bc6711321fe16c31fef", func := "example.com/shellwright/shellwright/zzlaws_pkg_policy_b1.FnMarkBracketsMatchesModel", spec := "fnMarkBracketsMatchesModel", inPlace := ["internal/bytealg.IndexByteString"], apart := false }
def FnMarkBracketsMatchesModelSaid : Prop := fnMarkBracketsMatchesModelRow.holds Try.pinned (OpenSpec.ofChange fnMarkBracketsMatchesModelSpec)

/-- ITS FALSE NEIGHBOUR: 'it returns false'. Refute it at one input. -/
def fnMarkBracketsMatchesModelWrong : ChangeSpec := { name := "fnMarkBracketsMatchesModel", fn := fun _ => fun
  | [d1, d2, d3] => { results := [.lit (.bool false)], args := [d1, d2, d3] }
  | _ => none }
def FnMarkBracketsMatchesModelWrongFalsely : Prop := fnMarkBracketsMatchesModelRow.holds Try.pinned (OpenSpec.ofChange fnMarkBracketsMatchesModelWrong)

/-- 'zzlaws_pkg_policy_b1.FnMarkBracketsPairsAndSettles': WHATEVER THE INPUT: true; the input reads as it did. -/
def fnMarkBracketsPairsAndSettlesSpec : ChangeSpec := { name := "fnMarkBracketsPairsAndSettles", fn := fun _ => fun
  | [d1, d2, d3] => { results := [.lit (.bool true)], args := [d1, d2, d3] }
  | _ => none }
def fnMarkBracketsPairsAndSettlesRow : OpenClaim := { program := "qxb6601350a", sum := "eee558d8fc505a29c1eb801a7af53b995be00ab3e8a21bc6711321fe16c31fef", func := "example.com/shellwright/shellwright/zzlaws_pkg_policy_b1.FnMarkBracketsPairsAndSettles", spec := "fnMarkBracketsPairsAndSettles", inPlace := ["internal/bytealg.IndexByteString"], apart := false }
def FnMarkBracketsPairsAndSettlesSaid : Prop := fnMarkBracketsPairsAndSettlesRow.holds Try.pinned (OpenSpec.ofChange fnMarkBracketsPairsAndSettlesSpec)

/-- ITS FALSE NEIGHBOUR: 'it returns false'. Refute it at one input. -/
def fnMarkBracketsPairsAndSettlesWrong : ChangeSpec := { name := "fnMarkBracketsPairsAndSettles", fn := fun _ => fun
  | [d1, d2, d3] => { results := [.lit (.bool false)], args := [d1, d2, d3] }
  | _ => none }
def FnMarkBracketsPairsAndSettlesWrongFalsely : Prop := fnMarkBracketsPairsAndSettlesRow.holds Try.pinned (OpenSpec.ofChange fnMarkBracketsPairsAndSettlesWrong)

/-- 'zzlaws_pkg_policy_b1.FnNamePlacesMatchesModel': WHATEVER THE INPUT: true; the input reads as it did. -/
def fnNamePlacesMatchesModelSpec : ChangeSpec := { name := "fnNamePlacesMatchesModel", fn := fun _ => fun
  | [d1, d2, d3] => { results := [.lit (.bool true)], args := [d1, d2, d3] }
  | _ => none }
def fnNamePlacesMatchesModelRow : OpenClaim := { program := "qxb6601350a", sum := "eee558d8fc505a29c1eb801a7af53b995be00ab3e8a21bc6711321fe16c31fef", func := "example.com/shellwright/shellwright/zzlaws_pkg_policy_b1.FnNamePlacesMatchesModel", spec := "fnNamePlacesMatchesModel", inPlace := ["internal/bytealg.IndexByteString"], unfollowed := true, recurses := true, apart := false }
def FnNamePlacesMatchesModelSaid : Prop := fnNamePlacesMatchesModelRow.holds Try.pinned (OpenSpec.ofChange fnNamePlacesMatchesModelSpec)

/-- ITS FALSE NEIGHBOUR: 'it returns false'. Refute it at one input. -/
def fnNamePlacesMatchesModelWrong : ChangeSpec := { name := "fnNamePlacesMatchesModel", fn := fun _ => fun
  | [d1, d2, d3] => { results := [.lit (.bool false)], args := [d1, d2, d3] }
  | _ => none }
def FnNamePlacesMatchesModelWrongFalsely : Prop := fnNamePlacesMatchesModelRow.holds Try.pinned (OpenSpec.ofChange fnNamePlacesMatchesModelWrong)

/-- 'zzlaws_pkg_policy_b1.FnNamePlacesFoldWidensOnlyByCase': WHATEVER THE INPUT: true; the input reads as it did. -/
def fnNamePlacesFoldWidensOnlyByCaseSpec : ChangeSpec := { name := "fnNamePlacesFoldWidensOnlyByCase", fn := fun _ => fun
  | [d1, d2] => { results := [.lit (.bool true)], args := [d1, d2] }
  | _ => none }
def fnNamePlacesFoldWidensOnlyByCaseRow : OpenClaim := { program := "qxb6601350a", sum := "eee558d8fc505a29c1eb801a7af53b995be00ab3e8a21bc6711321fe16c31fef", func := "example.com/shellwright/shellwright/zzlaws_pkg_policy_b1.FnNamePlacesFoldWidensOnlyByCase", spec := "fnNamePlacesFoldWidensOnlyByCase", inPlace := ["internal/bytealg.IndexByteString"], unfollowed := true, recurses := true, apart := false }
def FnNamePlacesFoldWidensOnlyByCaseSaid : Prop := fnNamePlacesFoldWidensOnlyByCaseRow.holds Try.pinned (OpenSpec.ofChange fnNamePlacesFoldWidensOnlyByCaseSpec)

/-- ITS FALSE NEIGHBOUR: 'it returns false'. Refute it at one input. -/
def fnNamePlacesFoldWidensOnlyByCaseWrong : ChangeSpec := { name := "fnNamePlacesFoldWidensOnlyByCase", fn := fun _ => fun
  | [d1, d2] => { results := [.lit (.bool false)], args := [d1, d2] }
  | _ => none }
def FnNamePlacesFoldWidensOnlyByCaseWrongFalsely : Prop := fnNamePlacesFoldWidensOnlyByCaseRow.holds Try.pinned (OpenSpec.ofChange fnNamePlacesFoldWidensOnlyByCaseWrong)

/-- 'zzlaws_pkg_policy_b1.FnNamePlacesWellFormed': WHATEVER THE INPUT: true; the input reads as it did. -/
def fnNamePlacesWellFormedSpec : ChangeSpec := { name := "fnNamePlacesWellFormed", fn := fun _ => fun
  | [d1, d2, d3] => { results := [.lit (.bool true)], args := [d1, d2, d3] }
  | _ => none }
def fnNamePlacesWellFormedRow : OpenClaim := { program := "qxb6601350a", sum := "eee558d8fc505a29c1eb801a7af53b995be00ab3e8a21bc6711321fe16c31fef", func := "example.com/shellwright/shellwright/zzlaws_pkg_policy_b1.FnNamePlacesWellFormed", spec := "fnNamePlacesWellFormed", inPlace := ["internal/bytealg.IndexByteString"], unfollowed := true, recurses := true, apart := false }
def FnNamePlacesWellFormedSaid : Prop := fnNamePlacesWellFormedRow.holds Try.pinned (OpenSpec.ofChange fnNamePlacesWellFormedSpec)

/-- ITS FALSE NEIGHBOUR: 'it returns false'. Refute it at one input. -/
def fnNamePlacesWellFormedWrong : ChangeSpec := { name := "fnNamePlacesWellFormed", fn := fun _ => fun
  | [d1, d2, d3] => { results := [.lit (.bool false)], args := [d1, d2, d3] }
  | _ => none }
def FnNamePlacesWellFormedWrongFalsely : Prop := fnNamePlacesWellFormedRow.holds Try.pinned (OpenSpec.ofChange fnNamePlacesWellFormedWrong)

/-- 'zzlaws_pkg_policy_b1.FnParseDecimalReadsWhatIsWritten': WHATEVER THE INPUT: true; the input reads as it did. -/
def fnParseDecimalReadsWhatIsWrittenSpec : ChangeSpec := { name := "fnParseDecimalReadsWhatIsWritten", fn := fun _ => fun
  | [d1, d2, d3, d4] => { results := [.lit (.bool true)], args := [d1, d2, d3, d4] }
  | _ => none }
def fnParseDecimalReadsWhatIsWrittenRow : OpenClaim := { program := "qxb6601350a", sum := "eee558d8fc505a29c1eb801a7af53b995be00ab3e8a21bc6711321fe16c31fef", func := "example.com/shellwright/shellwright/zzlaws_pkg_policy_b1.FnParseDecimalReadsWhatIsWritten", spec := "fnParseDecimalReadsWhatIsWritten", apart := false }
def FnParseDecimalReadsWhatIsWrittenSaid : Prop := fnParseDecimalReadsWhatIsWrittenRow.holds Try.pinned (OpenSpec.ofChange fnParseDecimalReadsWhatIsWrittenSpec)

/-- ITS FALSE NEIGHBOUR: 'it returns false'. Refute it at one input. -/
def fnParseDecimalReadsWhatIsWrittenWrong : ChangeSpec := { name := "fnParseDecimalReadsWhatIsWritten", fn := fun _ => fun
  | [d1, d2, d3, d4] => { results := [.lit (.bool false)], args := [d1, d2, d3, d4] }
  | _ => none }
def FnParseDecimalReadsWhatIsWrittenWrongFalsely : Prop := fnParseDecimalReadsWhatIsWrittenRow.holds Try.pinned (OpenSpec.ofChange fnParseDecimalReadsWhatIsWrittenWrong)

/-- 'zzlaws_pkg_policy_b1.FnParseDecimalSignsAgree': WHATEVER THE INPUT: true; the input reads as it did. -/
def fnParseDecimalSignsAgreeSpec : ChangeSpec := { name := "fnParseDecimalSignsAgree", fn := fun _ => fun
  | [d] => { results := [.lit (.bool true)], args := [d] }
  | _ => none }
def fnParseDecimalSignsAgreeRow : OpenClaim := { program := "qxb6601350a", sum := "eee558d8fc505a29c1eb801a7af53b995be00ab3e8a21bc6711321fe16c31fef", func := "example.com/shellwright/shellwright/zzlaws_pkg_policy_b1.FnParseDecimalSignsAgree", spec := "fnParseDecimalSignsAgree", apart := false }
def FnParseDecimalSignsAgreeSaid : Prop := fnParseDecimalSignsAgreeRow.holds Try.pinned (OpenSpec.ofChange fnParseDecimalSignsAgreeSpec)

/-- ITS FALSE NEIGHBOUR: 'it returns false'. Refute it at one input. -/
def fnParseDecimalSignsAgreeWrong : ChangeSpec := { name := "fnParseDecimalSignsAgree", fn := fun _ => fun
  | [d] => { results := [.lit (.bool false)], args := [d] }
  | _ => none }
def FnParseDecimalSignsAgreeWrongFalsely : Prop := fnParseDecimalSignsAgreeRow.holds Try.pinned (OpenSpec.ofChange fnParseDecimalSignsAgreeWrong)

end Rows
end Go.Proofs.Qxb6601350a
