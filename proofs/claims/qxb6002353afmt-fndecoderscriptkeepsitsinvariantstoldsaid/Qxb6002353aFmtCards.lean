/-
  DERIVED. GIVEN WITH THE SEED: THE CARDS: each row of Qxb6002353aFmtRows.lean that lists a variable, with what it lists TIED to the program's text (the seventh form; the later family's looks); each row that meets fmt, with fmt's text TOLD by the authors' own Lean function (tested against real Go, not proved from fmt's source: count such statements apart). THE CARD IS WHAT COUNTS. Prove the row's statement (the work); the ties are given (Qxb6002353aFmtTie.lean); close each card by the builder's one call (the guide's Derived/Test/ToyasCard.lean, 'card_holds'). Laid BY PROGRAM, IN A SANDBOX (cutbox-door.mjs). By AI agents, Wed Nov 11 2026. No macro, syntax, notation, axiom, sorry.
-/
import Derived.Test.Qxb6002353aFmtRows
import GoSem.ClaimSeven
namespace Go.Proofs.Qxb6002353aFmt
namespace Rows

/-- THE TOLD CARD OF 'zzlaws_internal_wire_g1.FnByteReadsInOrderAndEndIsExact'. -/
def fnByteReadsInOrderAndEndIsExactCard : Claim7 := { stood := { row := fnByteReadsInOrderAndEndIsExactRow, standIns := [], harness := (true, "8fc5c896b1256073681cc1084ee7305bace7a0a9877657ebb3df4be06a11a4a3"), looks := false }, told := true, goes := false }
def FnByteReadsInOrderAndEndIsExactToldSaid : Prop := Claim7.holds Tryf.pinned (.plain (OpenSpec.ofChange fnByteReadsInOrderAndEndIsExactSpec)) fnByteReadsInOrderAndEndIsExactCard
/-- ITS FALSE NEIGHBOUR. Refute it at one input. -/
def FnByteReadsInOrderAndEndIsExactToldWrongFalsely : Prop := Claim7.holds Tryf.pinned (.plain (OpenSpec.ofChange fnByteReadsInOrderAndEndIsExactWrong)) fnByteReadsInOrderAndEndIsExactCard

/-- THE TOLD CARD OF 'zzlaws_internal_wire_g1.FnUvarintRoundTrip'. -/
def fnUvarintRoundTripCard : Claim7 := { stood := { row := fnUvarintRoundTripRow, standIns := [], harness := (true, "8fc5c896b1256073681cc1084ee7305bace7a0a9877657ebb3df4be06a11a4a3"), looks := false }, told := true, goes := false }
def FnUvarintRoundTripToldSaid : Prop := Claim7.holds Tryf.pinned (.plain (OpenSpec.ofChange fnUvarintRoundTripSpec)) fnUvarintRoundTripCard
/-- ITS FALSE NEIGHBOUR. Refute it at one input. -/
def FnUvarintRoundTripToldWrongFalsely : Prop := Claim7.holds Tryf.pinned (.plain (OpenSpec.ofChange fnUvarintRoundTripWrong)) fnUvarintRoundTripCard

/-- THE TOLD CARD OF 'zzlaws_internal_wire_g1.FnUvarintAcceptsOnlyShortest'. -/
def fnUvarintAcceptsOnlyShortestCard : Claim7 := { stood := { row := fnUvarintAcceptsOnlyShortestRow, standIns := [], harness := (true, "8fc5c896b1256073681cc1084ee7305bace7a0a9877657ebb3df4be06a11a4a3"), looks := false }, told := true, goes := false }
def FnUvarintAcceptsOnlyShortestToldSaid : Prop := Claim7.holds Tryf.pinned (.plain (OpenSpec.ofChange fnUvarintAcceptsOnlyShortestSpec)) fnUvarintAcceptsOnlyShortestCard
/-- ITS FALSE NEIGHBOUR. Refute it at one input. -/
def FnUvarintAcceptsOnlyShortestToldWrongFalsely : Prop := Claim7.holds Tryf.pinned (.plain (OpenSpec.ofChange fnUvarintAcceptsOnlyShortestWrong)) fnUvarintAcceptsOnlyShortestCard

/-- THE TOLD CARD OF 'zzlaws_internal_wire_g1.FnCountAcceptsExactlyWhatFits'. -/
def fnCountAcceptsExactlyWhatFitsCard : Claim7 := { stood := { row := fnCountAcceptsExactlyWhatFitsRow, standIns := [], harness := (true, "8fc5c896b1256073681cc1084ee7305bace7a0a9877657ebb3df4be06a11a4a3"), looks := false }, told := true, goes := false }
def FnCountAcceptsExactlyWhatFitsToldSaid : Prop := Claim7.holds Tryf.pinned (.plain (OpenSpec.ofChange fnCountAcceptsExactlyWhatFitsSpec)) fnCountAcceptsExactlyWhatFitsCard
/-- ITS FALSE NEIGHBOUR. Refute it at one input. -/
def FnCountAcceptsExactlyWhatFitsToldWrongFalsely : Prop := Claim7.holds Tryf.pinned (.plain (OpenSpec.ofChange fnCountAcceptsExactlyWhatFitsWrong)) fnCountAcceptsExactlyWhatFitsCard

/-- THE TOLD CARD OF 'zzlaws_internal_wire_g1.FnDecoderScriptKeepsItsInvariants'. -/
def fnDecoderScriptKeepsItsInvariantsCard : Claim7 := { stood := { row := fnDecoderScriptKeepsItsInvariantsRow, standIns := [], harness := (true, "8fc5c896b1256073681cc1084ee7305bace7a0a9877657ebb3df4be06a11a4a3"), looks := false }, told := true, goes := false }
def FnDecoderScriptKeepsItsInvariantsToldSaid : Prop := Claim7.holds Tryf.pinned (.plain (OpenSpec.ofChange fnDecoderScriptKeepsItsInvariantsSpec)) fnDecoderScriptKeepsItsInvariantsCard
/-- ITS FALSE NEIGHBOUR. Refute it at one input. -/
def FnDecoderScriptKeepsItsInvariantsToldWrongFalsely : Prop := Claim7.holds Tryf.pinned (.plain (OpenSpec.ofChange fnDecoderScriptKeepsItsInvariantsWrong)) fnDecoderScriptKeepsItsInvariantsCard
end Rows
end Go.Proofs.Qxb6002353aFmt
