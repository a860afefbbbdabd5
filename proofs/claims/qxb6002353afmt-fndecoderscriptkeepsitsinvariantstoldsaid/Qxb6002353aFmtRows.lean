/-
  No cell of these rows narrows 'for every input' (looked for: loops, veiled, ifaces, maps, wideKeys, modest, calm, conditions, laid).
  DERIVED. THE GIVEN ROWS OF THIS SEAT. 5 by the template 'for every input the law returns true; each argument reads behind the call as it read before'; 0 by the template 'total and deterministic' (their statements: Qxb6002353aFmtTotals.lean).
  GIVEN WITH THE SEED: the statements are not yours to turn. If you find one false, say at which input.
  Laid BY PROGRAM, IN A SANDBOX (cutbox-rows.mjs): the forced cells as the released guide's own fill.sh prints them over the translation 7fb46908029b1e59… (all of the seat's roots in one cut). By AI agents, Wed Nov 11 2026. No macro, syntax, notation, axiom, sorry.
-/
import Derived.Test.Qxb6002353aFmtChecked
import GoSem.Claim
import GoSem.ClaimJoined
import GoSem.ClaimMapViews
import Derived.JoinedTies
import Derived.KernelRfl
namespace Go.Proofs.Qxb6002353aFmt
/- THE CELL 'sum', in the pinned program and in every row, IS THE sha256 OF THE DUMP (.gsa) THAT Qxb6002353aFmtProg.lean LOADS. Nothing in Lean hashes anything: it is a label: what it is worth is what the hold of that sum in a sandbox is worth. -/
noncomputable def Tryf.pinned : Pinned := { name := "qxb6002353afmt", sum := "7fb46908029b1e59d2f9f09ac93a7d5c9b4355c15806f62196f3ce38809ae69e", checked := Tryf.checked }
namespace Rows
def none {H : Type} : Left H := { results := [], args := [] }

/-- 'zzlaws_internal_wire_g1.FnByteReadsInOrderAndEndIsExact': WHATEVER THE INPUT: true; the input reads as it did. -/
def fnByteReadsInOrderAndEndIsExactSpec : ChangeSpec := { name := "fnByteReadsInOrderAndEndIsExact", fn := fun _ => fun
  | [d1, d2] => { results := [.lit (.bool true)], args := [d1, d2] }
  | _ => none }
def fnByteReadsInOrderAndEndIsExactRow : OpenClaim := { program := "qxb6002353afmt", sum := "7fb46908029b1e59d2f9f09ac93a7d5c9b4355c15806f62196f3ce38809ae69e", func := "example.com/riftwatch/riftwatch/zzlaws_internal_wire_g1.FnByteReadsInOrderAndEndIsExact", spec := "fnByteReadsInOrderAndEndIsExact", stops := ["fmt.errorf"], inPlace := ["fmt.errorf"], apart := false }
/-- NO THEOREM (fmt's text is open here; it may be false): for the released tool's asking of the row's closed facts alone. THE STATEMENT IS 'FnByteReadsInOrderAndEndIsExactToldSaid' (Qxb6002353aFmtCards.lean). -/
def FnByteReadsInOrderAndEndIsExactFormAsk : Prop := fnByteReadsInOrderAndEndIsExactRow.holds Tryf.pinned (OpenSpec.ofChange fnByteReadsInOrderAndEndIsExactSpec)

/-- ITS FALSE NEIGHBOUR: 'it returns false'. Refute it at one input. -/
def fnByteReadsInOrderAndEndIsExactWrong : ChangeSpec := { name := "fnByteReadsInOrderAndEndIsExact", fn := fun _ => fun
  | [d1, d2] => { results := [.lit (.bool false)], args := [d1, d2] }
  | _ => none }
def FnByteReadsInOrderAndEndIsExactWrongFormAsk : Prop := fnByteReadsInOrderAndEndIsExactRow.holds Tryf.pinned (OpenSpec.ofChange fnByteReadsInOrderAndEndIsExactWrong)

/-- 'zzlaws_internal_wire_g1.FnUvarintRoundTrip': WHATEVER THE INPUT: true; the input reads as it did. -/
def fnUvarintRoundTripSpec : ChangeSpec := { name := "fnUvarintRoundTrip", fn := fun _ => fun
  | [d1, d2] => { results := [.lit (.bool true)], args := [d1, d2] }
  | _ => none }
def fnUvarintRoundTripRow : OpenClaim := { program := "qxb6002353afmt", sum := "7fb46908029b1e59d2f9f09ac93a7d5c9b4355c15806f62196f3ce38809ae69e", func := "example.com/riftwatch/riftwatch/zzlaws_internal_wire_g1.FnUvarintRoundTrip", spec := "fnUvarintRoundTrip", stops := ["fmt.errorf"], inPlace := ["fmt.errorf"], apart := false }
/-- NO THEOREM (fmt's text is open here; it may be false): for the released tool's asking of the row's closed facts alone. THE STATEMENT IS 'FnUvarintRoundTripToldSaid' (Qxb6002353aFmtCards.lean). -/
def FnUvarintRoundTripFormAsk : Prop := fnUvarintRoundTripRow.holds Tryf.pinned (OpenSpec.ofChange fnUvarintRoundTripSpec)

/-- ITS FALSE NEIGHBOUR: 'it returns false'. Refute it at one input. -/
def fnUvarintRoundTripWrong : ChangeSpec := { name := "fnUvarintRoundTrip", fn := fun _ => fun
  | [d1, d2] => { results := [.lit (.bool false)], args := [d1, d2] }
  | _ => none }
def FnUvarintRoundTripWrongFormAsk : Prop := fnUvarintRoundTripRow.holds Tryf.pinned (OpenSpec.ofChange fnUvarintRoundTripWrong)

/-- 'zzlaws_internal_wire_g1.FnUvarintAcceptsOnlyShortest': WHATEVER THE INPUT: true; the input reads as it did. -/
def fnUvarintAcceptsOnlyShortestSpec : ChangeSpec := { name := "fnUvarintAcceptsOnlyShortest", fn := fun _ => fun
  | [d] => { results := [.lit (.bool true)], args := [d] }
  | _ => none }
def fnUvarintAcceptsOnlyShortestRow : OpenClaim := { program := "qxb6002353afmt", sum := "7fb46908029b1e59d2f9f09ac93a7d5c9b4355c15806f62196f3ce38809ae69e", func := "example.com/riftwatch/riftwatch/zzlaws_internal_wire_g1.FnUvarintAcceptsOnlyShortest", spec := "fnUvarintAcceptsOnlyShortest", stops := ["fmt.errorf"], inPlace := ["fmt.errorf"], apart := false }
/-- NO THEOREM (fmt's text is open here; it may be false): for the released tool's asking of the row's closed facts alone. THE STATEMENT IS 'FnUvarintAcceptsOnlyShortestToldSaid' (Qxb6002353aFmtCards.lean). -/
def FnUvarintAcceptsOnlyShortestFormAsk : Prop := fnUvarintAcceptsOnlyShortestRow.holds Tryf.pinned (OpenSpec.ofChange fnUvarintAcceptsOnlyShortestSpec)

/-- ITS FALSE NEIGHBOUR: 'it returns false'. Refute it at one input. -/
def fnUvarintAcceptsOnlyShortestWrong : ChangeSpec := { name := "fnUvarintAcceptsOnlyShortest", fn := fun _ => fun
  | [d] => { results := [.lit (.bool false)], args := [d] }
  | _ => none }
def FnUvarintAcceptsOnlyShortestWrongFormAsk : Prop := fnUvarintAcceptsOnlyShortestRow.holds Tryf.pinned (OpenSpec.ofChange fnUvarintAcceptsOnlyShortestWrong)

/-- 'zzlaws_internal_wire_g1.FnCountAcceptsExactlyWhatFits': WHATEVER THE INPUT: true; the input reads as it did. -/
def fnCountAcceptsExactlyWhatFitsSpec : ChangeSpec := { name := "fnCountAcceptsExactlyWhatFits", fn := fun _ => fun
  | [d1, d2] => { results := [.lit (.bool true)], args := [d1, d2] }
  | _ => none }
def fnCountAcceptsExactlyWhatFitsRow : OpenClaim := { program := "qxb6002353afmt", sum := "7fb46908029b1e59d2f9f09ac93a7d5c9b4355c15806f62196f3ce38809ae69e", func := "example.com/riftwatch/riftwatch/zzlaws_internal_wire_g1.FnCountAcceptsExactlyWhatFits", spec := "fnCountAcceptsExactlyWhatFits", stops := ["fmt.errorf"], inPlace := ["fmt.errorf"], apart := false }
/-- NO THEOREM (fmt's text is open here; it may be false): for the released tool's asking of the row's closed facts alone. THE STATEMENT IS 'FnCountAcceptsExactlyWhatFitsToldSaid' (Qxb6002353aFmtCards.lean). -/
def FnCountAcceptsExactlyWhatFitsFormAsk : Prop := fnCountAcceptsExactlyWhatFitsRow.holds Tryf.pinned (OpenSpec.ofChange fnCountAcceptsExactlyWhatFitsSpec)

/-- ITS FALSE NEIGHBOUR: 'it returns false'. Refute it at one input. -/
def fnCountAcceptsExactlyWhatFitsWrong : ChangeSpec := { name := "fnCountAcceptsExactlyWhatFits", fn := fun _ => fun
  | [d1, d2] => { results := [.lit (.bool false)], args := [d1, d2] }
  | _ => none }
def FnCountAcceptsExactlyWhatFitsWrongFormAsk : Prop := fnCountAcceptsExactlyWhatFitsRow.holds Tryf.pinned (OpenSpec.ofChange fnCountAcceptsExactlyWhatFitsWrong)

/-- 'zzlaws_internal_wire_g1.FnDecoderScriptKeepsItsInvariants': WHATEVER THE INPUT: true; the input reads as it did. -/
def fnDecoderScriptKeepsItsInvariantsSpec : ChangeSpec := { name := "fnDecoderScriptKeepsItsInvariants", fn := fun _ => fun
  | [d1, d2] => { results := [.lit (.bool true)], args := [d1, d2] }
  | _ => none }
def fnDecoderScriptKeepsItsInvariantsRow : OpenClaim := { program := "qxb6002353afmt", sum := "7fb46908029b1e59d2f9f09ac93a7d5c9b4355c15806f62196f3ce38809ae69e", func := "example.com/riftwatch/riftwatch/zzlaws_internal_wire_g1.FnDecoderScriptKeepsItsInvariants", spec := "fnDecoderScriptKeepsItsInvariants", stops := ["fmt.errorf"], inPlace := ["fmt.errorf"], apart := false }
/-- NO THEOREM (fmt's text is open here; it may be false): for the released tool's asking of the row's closed facts alone. THE STATEMENT IS 'FnDecoderScriptKeepsItsInvariantsToldSaid' (Qxb6002353aFmtCards.lean). -/
def FnDecoderScriptKeepsItsInvariantsFormAsk : Prop := fnDecoderScriptKeepsItsInvariantsRow.holds Tryf.pinned (OpenSpec.ofChange fnDecoderScriptKeepsItsInvariantsSpec)

/-- ITS FALSE NEIGHBOUR: 'it returns false'. Refute it at one input. -/
def fnDecoderScriptKeepsItsInvariantsWrong : ChangeSpec := { name := "fnDecoderScriptKeepsItsInvariants", fn := fun _ => fun
  | [d1, d2] => { results := [.lit (.bool false)], args := [d1, d2] }
  | _ => none }
def FnDecoderScriptKeepsItsInvariantsWrongFormAsk : Prop := fnDecoderScriptKeepsItsInvariantsRow.holds Tryf.pinned (OpenSpec.ofChange fnDecoderScriptKeepsItsInvariantsWrong)

end Rows
end Go.Proofs.Qxb6002353aFmt
