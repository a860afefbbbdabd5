/-
  No cell of these rows narrows 'for every input' (looked for: loops, veiled, ifaces, maps, wideKeys, modest, calm, conditions, laid).
  DERIVED. THE GIVEN ROWS OF THIS SEAT. 9 by the template 'for every input the law returns true; each argument reads behind the call as it read before'; 0 by the template 'total and deterministic' (their statements: Qxb6002372aTotals.lean).
  GIVEN WITH THE SEED: the statements are not yours to turn. If you find one false, say at which input.
  Laid BY PROGRAM, IN A SANDBOX (cutbox-rows.mjs): the forced cells as the released guide's own fill.sh prints them over the translation 7f8fd1cd9239bd95… (all of the seat's roots in one cut). By AI agents, Wed Nov 11 2026. No macro, syntax, notation, axiom, sorry.
-/
import Derived.Test.Qxb6002372aChecked
import GoSem.Claim
import GoSem.ClaimJoined
import GoSem.ClaimMapViews
import Derived.JoinedTies
import Derived.KernelRfl
namespace Go.Proofs.Qxb6002372a
/- THE CELL 'sum', in the pinned program and in every row, IS THE sha256 OF THE DUMP (.gsa) THAT Qxb6002372aProg.lean LOADS. Nothing in Lean hashes anything: it is a label: what it is worth is what the hold of that sum in a sandbox is worth. -/
noncomputable def Try.pinned : Pinned := { name := "qxb6002372a", sum := "7f8fd1cd9239bd95690e9230919537f075f3812e131a9545bda9513d79d671de", checked := Try.checked }
namespace Rows
def none {H : Type} : Left H := { results := [], args := [] }

/-- 'zzlaws_bootfile_g1.FnScriptKeepsLineCountAndNeverSplitsCRLF': WHATEVER THE INPUT: true; the input reads as it did. -/
def fnScriptKeepsLineCountAndNeverSplitsCRLFSpec : ChangeSpec := { name := "fnScriptKeepsLineCountAndNeverSplitsCRLF", fn := fun _ => fun
  | [d1, d2, d3, d4] => { results := [.lit (.bool true)], args := [d1, d2, d3, d4] }
  | _ => none }
def fnScriptKeepsLineCountAndNeverSplitsCRLFRow : OpenClaim := { program := "qxb6002372a", sum := "7f8fd1cd9239bd95690e9230919537f075f3812e131a9545bda9513d79d671de", func := "example.com/firmrudder/firmrudder/zzlaws_bootfile_g1.FnScriptKeepsLineCountAndNeverSplitsCRLF", spec := "fnScriptKeepsLineCountAndNeverSplitsCRLF", plainKeys := false, apart := false }
def FnScriptKeepsLineCountAndNeverSplitsCRLFSaid : Prop := fnScriptKeepsLineCountAndNeverSplitsCRLFRow.holds Try.pinned (OpenSpec.ofChange fnScriptKeepsLineCountAndNeverSplitsCRLFSpec)

/-- ITS FALSE NEIGHBOUR: 'it returns false'. Refute it at one input. -/
def fnScriptKeepsLineCountAndNeverSplitsCRLFWrong : ChangeSpec := { name := "fnScriptKeepsLineCountAndNeverSplitsCRLF", fn := fun _ => fun
  | [d1, d2, d3, d4] => { results := [.lit (.bool false)], args := [d1, d2, d3, d4] }
  | _ => none }
def FnScriptKeepsLineCountAndNeverSplitsCRLFWrongFalsely : Prop := fnScriptKeepsLineCountAndNeverSplitsCRLFRow.holds Try.pinned (OpenSpec.ofChange fnScriptKeepsLineCountAndNeverSplitsCRLFWrong)

/-- 'zzlaws_bootfile_g1.FnLineEndingBackslashSpec': WHATEVER THE INPUT: true; the input reads as it did. -/
def fnLineEndingBackslashSpecSpec : ChangeSpec := { name := "fnLineEndingBackslashSpec", fn := fun _ => fun
  | [d1, d2, d3] => { results := [.lit (.bool true)], args := [d1, d2, d3] }
  | _ => none }
def fnLineEndingBackslashSpecRow : OpenClaim := { program := "qxb6002372a", sum := "7f8fd1cd9239bd95690e9230919537f075f3812e131a9545bda9513d79d671de", func := "example.com/firmrudder/firmrudder/zzlaws_bootfile_g1.FnLineEndingBackslashSpec", spec := "fnLineEndingBackslashSpec", plainKeys := false, apart := false }
def FnLineEndingBackslashSpecSaid : Prop := fnLineEndingBackslashSpecRow.holds Try.pinned (OpenSpec.ofChange fnLineEndingBackslashSpecSpec)

/-- ITS FALSE NEIGHBOUR: 'it returns false'. Refute it at one input. -/
def fnLineEndingBackslashSpecWrong : ChangeSpec := { name := "fnLineEndingBackslashSpec", fn := fun _ => fun
  | [d1, d2, d3] => { results := [.lit (.bool false)], args := [d1, d2, d3] }
  | _ => none }
def FnLineEndingBackslashSpecWrongFalsely : Prop := fnLineEndingBackslashSpecRow.holds Try.pinned (OpenSpec.ofChange fnLineEndingBackslashSpecWrong)

/-- 'zzlaws_efi_g1.FnSplitOutsideJoinsBackIntoWholeParts': WHATEVER THE INPUT: true; the input reads as it did. -/
def fnSplitOutsideJoinsBackIntoWholePartsSpec : ChangeSpec := { name := "fnSplitOutsideJoinsBackIntoWholeParts", fn := fun _ => fun
  | [d1, d2] => { results := [.lit (.bool true)], args := [d1, d2] }
  | _ => none }
def fnSplitOutsideJoinsBackIntoWholePartsRow : OpenClaim := { program := "qxb6002372a", sum := "7f8fd1cd9239bd95690e9230919537f075f3812e131a9545bda9513d79d671de", func := "example.com/firmrudder/firmrudder/zzlaws_efi_g1.FnSplitOutsideJoinsBackIntoWholeParts", spec := "fnSplitOutsideJoinsBackIntoWholeParts", plainKeys := false, apart := false }
def FnSplitOutsideJoinsBackIntoWholePartsSaid : Prop := fnSplitOutsideJoinsBackIntoWholePartsRow.holds Try.pinned (OpenSpec.ofChange fnSplitOutsideJoinsBackIntoWholePartsSpec)

/-- ITS FALSE NEIGHBOUR: 'it returns false'. Refute it at one input. -/
def fnSplitOutsideJoinsBackIntoWholePartsWrong : ChangeSpec := { name := "fnSplitOutsideJoinsBackIntoWholeParts", fn := fun _ => fun
  | [d1, d2] => { results := [.lit (.bool false)], args := [d1, d2] }
  | _ => none }
def FnSplitOutsideJoinsBackIntoWholePartsWrongFalsely : Prop := fnSplitOutsideJoinsBackIntoWholePartsRow.holds Try.pinned (OpenSpec.ofChange fnSplitOutsideJoinsBackIntoWholePartsWrong)

/-- 'zzlaws_efi_g1.FnSplitOutsideIsPlainSplitWithoutParentheses': WHATEVER THE INPUT: true; the input reads as it did. -/
def fnSplitOutsideIsPlainSplitWithoutParenthesesSpec : ChangeSpec := { name := "fnSplitOutsideIsPlainSplitWithoutParentheses", fn := fun _ => fun
  | [d1, d2] => { results := [.lit (.bool true)], args := [d1, d2] }
  | _ => none }
def fnSplitOutsideIsPlainSplitWithoutParenthesesRow : OpenClaim := { program := "qxb6002372a", sum := "7f8fd1cd9239bd95690e9230919537f075f3812e131a9545bda9513d79d671de", func := "example.com/firmrudder/firmrudder/zzlaws_efi_g1.FnSplitOutsideIsPlainSplitWithoutParentheses", spec := "fnSplitOutsideIsPlainSplitWithoutParentheses", plainKeys := false, apart := false }
def FnSplitOutsideIsPlainSplitWithoutParenthesesSaid : Prop := fnSplitOutsideIsPlainSplitWithoutParenthesesRow.holds Try.pinned (OpenSpec.ofChange fnSplitOutsideIsPlainSplitWithoutParenthesesSpec)

/-- ITS FALSE NEIGHBOUR: 'it returns false'. Refute it at one input. -/
def fnSplitOutsideIsPlainSplitWithoutParenthesesWrong : ChangeSpec := { name := "fnSplitOutsideIsPlainSplitWithoutParentheses", fn := fun _ => fun
  | [d1, d2] => { results := [.lit (.bool false)], args := [d1, d2] }
  | _ => none }
def FnSplitOutsideIsPlainSplitWithoutParenthesesWrongFalsely : Prop := fnSplitOutsideIsPlainSplitWithoutParenthesesRow.holds Try.pinned (OpenSpec.ofChange fnSplitOutsideIsPlainSplitWithoutParenthesesWrong)

/-- 'zzlaws_efi_g1.FnNodeNameIsTheIdentifierBeforeTheParenthesis': WHATEVER THE INPUT: true; the input reads as it did. -/
def fnNodeNameIsTheIdentifierBeforeTheParenthesisSpec : ChangeSpec := { name := "fnNodeNameIsTheIdentifierBeforeTheParenthesis", fn := fun _ => fun
  | [d] => { results := [.lit (.bool true)], args := [d] }
  | _ => none }
def fnNodeNameIsTheIdentifierBeforeTheParenthesisRow : OpenClaim := { program := "qxb6002372a", sum := "7f8fd1cd9239bd95690e9230919537f075f3812e131a9545bda9513d79d671de", func := "example.com/firmrudder/firmrudder/zzlaws_efi_g1.FnNodeNameIsTheIdentifierBeforeTheParenthesis", spec := "fnNodeNameIsTheIdentifierBeforeTheParenthesis", inPlace := ["internal/bytealg.IndexByteString"], plainKeys := false, apart := false }
def FnNodeNameIsTheIdentifierBeforeTheParenthesisSaid : Prop := fnNodeNameIsTheIdentifierBeforeTheParenthesisRow.holds Try.pinned (OpenSpec.ofChange fnNodeNameIsTheIdentifierBeforeTheParenthesisSpec)

/-- ITS FALSE NEIGHBOUR: 'it returns false'. Refute it at one input. -/
def fnNodeNameIsTheIdentifierBeforeTheParenthesisWrong : ChangeSpec := { name := "fnNodeNameIsTheIdentifierBeforeTheParenthesis", fn := fun _ => fun
  | [d] => { results := [.lit (.bool false)], args := [d] }
  | _ => none }
def FnNodeNameIsTheIdentifierBeforeTheParenthesisWrongFalsely : Prop := fnNodeNameIsTheIdentifierBeforeTheParenthesisRow.holds Try.pinned (OpenSpec.ofChange fnNodeNameIsTheIdentifierBeforeTheParenthesisWrong)

/-- 'zzlaws_efi_g1.FnURIArgsIsLatin1': WHATEVER THE INPUT: true; the input reads as it did. -/
def fnURIArgsIsLatin1Spec : ChangeSpec := { name := "fnURIArgsIsLatin1", fn := fun _ => fun
  | [d] => { results := [.lit (.bool true)], args := [d] }
  | _ => none }
def fnURIArgsIsLatin1Row : OpenClaim := { program := "qxb6002372a", sum := "7f8fd1cd9239bd95690e9230919537f075f3812e131a9545bda9513d79d671de", func := "example.com/firmrudder/firmrudder/zzlaws_efi_g1.FnURIArgsIsLatin1", spec := "fnURIArgsIsLatin1", plainKeys := false, apart := false }
def FnURIArgsIsLatin1Said : Prop := fnURIArgsIsLatin1Row.holds Try.pinned (OpenSpec.ofChange fnURIArgsIsLatin1Spec)

/-- ITS FALSE NEIGHBOUR: 'it returns false'. Refute it at one input. -/
def fnURIArgsIsLatin1Wrong : ChangeSpec := { name := "fnURIArgsIsLatin1", fn := fun _ => fun
  | [d] => { results := [.lit (.bool false)], args := [d] }
  | _ => none }
def FnURIArgsIsLatin1WrongFalsely : Prop := fnURIArgsIsLatin1Row.holds Try.pinned (OpenSpec.ofChange fnURIArgsIsLatin1Wrong)

/-- 'zzlaws_varstore_g1.FnRecordSizeCountsUTF16Units': WHATEVER THE INPUT: true; the input reads as it did. -/
def fnRecordSizeCountsUTF16UnitsSpec : ChangeSpec := { name := "fnRecordSizeCountsUTF16Units", fn := fun _ => fun
  | [d1, d2] => { results := [.lit (.bool true)], args := [d1, d2] }
  | _ => none }
def fnRecordSizeCountsUTF16UnitsRow : OpenClaim := { program := "qxb6002372a", sum := "7f8fd1cd9239bd95690e9230919537f075f3812e131a9545bda9513d79d671de", func := "example.com/firmrudder/firmrudder/zzlaws_varstore_g1.FnRecordSizeCountsUTF16Units", spec := "fnRecordSizeCountsUTF16Units", plainKeys := false, apart := false }
def FnRecordSizeCountsUTF16UnitsSaid : Prop := fnRecordSizeCountsUTF16UnitsRow.holds Try.pinned (OpenSpec.ofChange fnRecordSizeCountsUTF16UnitsSpec)

/-- ITS FALSE NEIGHBOUR: 'it returns false'. Refute it at one input. -/
def fnRecordSizeCountsUTF16UnitsWrong : ChangeSpec := { name := "fnRecordSizeCountsUTF16Units", fn := fun _ => fun
  | [d1, d2] => { results := [.lit (.bool false)], args := [d1, d2] }
  | _ => none }
def FnRecordSizeCountsUTF16UnitsWrongFalsely : Prop := fnRecordSizeCountsUTF16UnitsRow.holds Try.pinned (OpenSpec.ofChange fnRecordSizeCountsUTF16UnitsWrong)

/-- 'zzlaws_varstore_g1.FnVariablesPicksFirstAddedElseLastRecord': WHATEVER THE INPUT: true; the input reads as it did. -/
def fnVariablesPicksFirstAddedElseLastRecordSpec : ChangeSpec := { name := "fnVariablesPicksFirstAddedElseLastRecord", fn := fun _ => fun
  | [d1, d2, d3] => { results := [.lit (.bool true)], args := [d1, d2, d3] }
  | _ => none }
def fnVariablesPicksFirstAddedElseLastRecordRow : OpenClaim := { program := "qxb6002372a", sum := "7f8fd1cd9239bd95690e9230919537f075f3812e131a9545bda9513d79d671de", func := "example.com/firmrudder/firmrudder/zzlaws_varstore_g1.FnVariablesPicksFirstAddedElseLastRecord", spec := "fnVariablesPicksFirstAddedElseLastRecord", recurses := true, plainKeys := false, apart := false }
def FnVariablesPicksFirstAddedElseLastRecordSaid : Prop := fnVariablesPicksFirstAddedElseLastRecordRow.holds Try.pinned (OpenSpec.ofChange fnVariablesPicksFirstAddedElseLastRecordSpec)

/-- ITS FALSE NEIGHBOUR: 'it returns false'. Refute it at one input. -/
def fnVariablesPicksFirstAddedElseLastRecordWrong : ChangeSpec := { name := "fnVariablesPicksFirstAddedElseLastRecord", fn := fun _ => fun
  | [d1, d2, d3] => { results := [.lit (.bool false)], args := [d1, d2, d3] }
  | _ => none }
def FnVariablesPicksFirstAddedElseLastRecordWrongFalsely : Prop := fnVariablesPicksFirstAddedElseLastRecordRow.holds Try.pinned (OpenSpec.ofChange fnVariablesPicksFirstAddedElseLastRecordWrong)

/-- 'zzlaws_varstore_g1.FnTakeRecordsRemovesExactlyOneVariable': WHATEVER THE INPUT: true; the input reads as it did. -/
def fnTakeRecordsRemovesExactlyOneVariableSpec : ChangeSpec := { name := "fnTakeRecordsRemovesExactlyOneVariable", fn := fun _ => fun
  | [d1, d2, d3, d4, d5] => { results := [.lit (.bool true)], args := [d1, d2, d3, d4, d5] }
  | _ => none }
def fnTakeRecordsRemovesExactlyOneVariableRow : OpenClaim := { program := "qxb6002372a", sum := "7f8fd1cd9239bd95690e9230919537f075f3812e131a9545bda9513d79d671de", func := "example.com/firmrudder/firmrudder/zzlaws_varstore_g1.FnTakeRecordsRemovesExactlyOneVariable", spec := "fnTakeRecordsRemovesExactlyOneVariable", recurses := true, plainKeys := false, apart := false }
def FnTakeRecordsRemovesExactlyOneVariableSaid : Prop := fnTakeRecordsRemovesExactlyOneVariableRow.holds Try.pinned (OpenSpec.ofChange fnTakeRecordsRemovesExactlyOneVariableSpec)

/-- ITS FALSE NEIGHBOUR: 'it returns false'. Refute it at one input. -/
def fnTakeRecordsRemovesExactlyOneVariableWrong : ChangeSpec := { name := "fnTakeRecordsRemovesExactlyOneVariable", fn := fun _ => fun
  | [d1, d2, d3, d4, d5] => { results := [.lit (.bool false)], args := [d1, d2, d3, d4, d5] }
  | _ => none }
def FnTakeRecordsRemovesExactlyOneVariableWrongFalsely : Prop := fnTakeRecordsRemovesExactlyOneVariableRow.holds Try.pinned (OpenSpec.ofChange fnTakeRecordsRemovesExactlyOneVariableWrong)

end Rows
end Go.Proofs.Qxb6002372a
