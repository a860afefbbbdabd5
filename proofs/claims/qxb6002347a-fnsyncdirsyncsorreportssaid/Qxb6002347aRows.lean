/-
  No cell of these rows narrows 'for every input' (looked for: loops, veiled, ifaces, maps, wideKeys, modest, calm, conditions, laid).
  DERIVED. THE GIVEN ROWS OF THIS SEAT. 2 by the template 'for every input the law returns true; each argument reads behind the call as it read before'; 0 by the template 'total and deterministic' (their statements: Qxb6002347aTotals.lean).
  GIVEN WITH THE SEED: the statements are not yours to turn. If you find one false, say at which input.
  Laid BY PROGRAM, IN A SANDBOX (cutbox-rows.mjs): the forced cells as the released guide's own fill.sh prints them over the translation 7b6de6daa1f250a5… (all of the seat's roots in one cut). By AI agents, Wed Nov 11 2026. No macro, syntax, notation, axiom, sorry.
-/
import Derived.Test.Qxb6002347aChecked
import GoSem.Claim
import GoSem.ClaimJoined
import GoSem.ClaimMapViews
import Derived.JoinedTies
import Derived.KernelRfl
namespace Go.Proofs.Qxb6002347a
/- THE CELL 'sum', in the pinned program and in every row, IS THE sha256 OF THE DUMP (.gsa) THAT Qxb6002347aProg.lean LOADS. Nothing in Lean hashes anything: it is a label: what it is worth is what the hold of that sum in a sandbox is worth. -/
noncomputable def Try.pinned : Pinned := { name := "qxb6002347a", sum := "7b6de6daa1f250a5be0e506e369b1c69f701e57e861a9ba89adbc1d3d955b8d1", checked := Try.checked }
namespace Rows
def none {H : Type} : Left H := { results := [], args := [] }

/-- 'zzlaws_internal_disk_g1.FnCreateIsAllOrNothing': WHATEVER THE INPUT: true; the input reads as it did. -/
def fnCreateIsAllOrNothingSpec : ChangeSpec := { name := "fnCreateIsAllOrNothing", fn := fun _ => fun
  | [d1, d2, d3, d4, d5] => { results := [.lit (.bool true)], args := [d1, d2, d3, d4, d5] }
  | _ => none }
def fnCreateIsAllOrNothingRow : OpenClaim := { program := "qxb6002347a", sum := "7b6de6daa1f250a5be0e506e369b1c69f701e57e861a9ba89adbc1d3d955b8d1", func := "example.com/antecede/antecede/zzlaws_internal_disk_g1.FnCreateIsAllOrNothing", spec := "fnCreateIsAllOrNothing", inPlace := ["internal/bytealg.IndexByteString"], unfollowed := true, recurses := true, apart := false }
def FnCreateIsAllOrNothingSaid : Prop := fnCreateIsAllOrNothingRow.holds Try.pinned (OpenSpec.ofChange fnCreateIsAllOrNothingSpec)

/-- ITS FALSE NEIGHBOUR: 'it returns false'. Refute it at one input. -/
def fnCreateIsAllOrNothingWrong : ChangeSpec := { name := "fnCreateIsAllOrNothing", fn := fun _ => fun
  | [d1, d2, d3, d4, d5] => { results := [.lit (.bool false)], args := [d1, d2, d3, d4, d5] }
  | _ => none }
def FnCreateIsAllOrNothingWrongFalsely : Prop := fnCreateIsAllOrNothingRow.holds Try.pinned (OpenSpec.ofChange fnCreateIsAllOrNothingWrong)

/-- 'zzlaws_internal_disk_g1.FnSyncDirSyncsOrReports': WHATEVER THE INPUT: true; the input reads as it did. -/
def fnSyncDirSyncsOrReportsSpec : ChangeSpec := { name := "fnSyncDirSyncsOrReports", fn := fun _ => fun
  | [d1, d2] => { results := [.lit (.bool true)], args := [d1, d2] }
  | _ => none }
def fnSyncDirSyncsOrReportsRow : OpenClaim := { program := "qxb6002347a", sum := "7b6de6daa1f250a5be0e506e369b1c69f701e57e861a9ba89adbc1d3d955b8d1", func := "example.com/antecede/antecede/zzlaws_internal_disk_g1.FnSyncDirSyncsOrReports", spec := "fnSyncDirSyncsOrReports", unfollowed := true, recurses := true, apart := false }
def FnSyncDirSyncsOrReportsSaid : Prop := fnSyncDirSyncsOrReportsRow.holds Try.pinned (OpenSpec.ofChange fnSyncDirSyncsOrReportsSpec)

/-- ITS FALSE NEIGHBOUR: 'it returns false'. Refute it at one input. -/
def fnSyncDirSyncsOrReportsWrong : ChangeSpec := { name := "fnSyncDirSyncsOrReports", fn := fun _ => fun
  | [d1, d2] => { results := [.lit (.bool false)], args := [d1, d2] }
  | _ => none }
def FnSyncDirSyncsOrReportsWrongFalsely : Prop := fnSyncDirSyncsOrReportsRow.holds Try.pinned (OpenSpec.ofChange fnSyncDirSyncsOrReportsWrong)

end Rows
end Go.Proofs.Qxb6002347a
