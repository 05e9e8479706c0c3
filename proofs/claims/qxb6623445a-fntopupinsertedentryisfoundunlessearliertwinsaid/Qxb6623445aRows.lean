/-
  No cell of these rows narrows 'for every input' (looked for: loops, veiled, ifaces, maps, wideKeys, modest, calm, conditions, laid).
  DERIVED. THE GIVEN ROWS OF THIS SEAT. 2 by the template 'for every input the law returns true; each argument reads behind the call as it read before'; 0 by the template 'total and deterministic' (their statements: Qxb6623445aTotals.lean).
  GIVEN WITH THE SEED: the statements are not yours to turn. If you find one false, say at which input.
  Laid BY PROGRAM, IN A SANDBOX (cutbox-rows.mjs): the forced cells as the released guide's own fill.sh prints them over the translation ea17a25f2e51cfc2… (all of the seat's roots in one cut). By AI agents, Wed Nov 11 2026. No macro, syntax, notation, axiom, sorry.
-/
import Derived.Test.Qxb6623445aChecked
import GoSem.Claim
import GoSem.ClaimJoined
import GoSem.ClaimMapViews
import Derived.JoinedTies
import Derived.KernelRfl
namespace Go.Proofs.Qxb6623445a
/- THE CELL 'sum', in the pinned program and in every row, IS THE sha256 OF THE DUMP (.gsa) THAT Qxb6623445aProg.lean LOADS. Nothing in Lean hashes anything: it is a label: what it is worth is what the hold of that sum in a sandbox is worth. -/
noncomputable def Try.pinned : Pinned := { name := "qxb6623445a", sum := "ea17a25f2e51cfc276a394fb4a4b5401309e2345cee5ea90260e97e588f03100", checked := Try.checked }
namespace Rows
def none {H : Type} : Left H := { results := [], args := [] }

/-- 'zzlaws_catalog_b1.FnTopUpInsertedEntryIsFoundUnlessEarlierTwin': WHATEVER THE INPUT: true; the input reads as it did. -/
def fnTopUpInsertedEntryIsFoundUnlessEarlierTwinSpec : ChangeSpec := { name := "fnTopUpInsertedEntryIsFoundUnlessEarlierTwin", fn := fun _ => fun
  | [d1, d2, d3] => { results := [.lit (.bool true)], args := [d1, d2, d3] }
  | _ => none }
def fnTopUpInsertedEntryIsFoundUnlessEarlierTwinRow : OpenClaim := { program := "qxb6623445a", sum := "ea17a25f2e51cfc276a394fb4a4b5401309e2345cee5ea90260e97e588f03100", func := "example.com/tollgate/tollgate/zzlaws_catalog_b1.FnTopUpInsertedEntryIsFoundUnlessEarlierTwin", spec := "fnTopUpInsertedEntryIsFoundUnlessEarlierTwin", apart := false }
def FnTopUpInsertedEntryIsFoundUnlessEarlierTwinSaid : Prop := fnTopUpInsertedEntryIsFoundUnlessEarlierTwinRow.holds Try.pinned (OpenSpec.ofChange fnTopUpInsertedEntryIsFoundUnlessEarlierTwinSpec)

/-- ITS FALSE NEIGHBOUR: 'it returns false'. Refute it at one input. -/
def fnTopUpInsertedEntryIsFoundUnlessEarlierTwinWrong : ChangeSpec := { name := "fnTopUpInsertedEntryIsFoundUnlessEarlierTwin", fn := fun _ => fun
  | [d1, d2, d3] => { results := [.lit (.bool false)], args := [d1, d2, d3] }
  | _ => none }
def FnTopUpInsertedEntryIsFoundUnlessEarlierTwinWrongFalsely : Prop := fnTopUpInsertedEntryIsFoundUnlessEarlierTwinRow.holds Try.pinned (OpenSpec.ofChange fnTopUpInsertedEntryIsFoundUnlessEarlierTwinWrong)

/-- 'zzlaws_catalog_b1.FnTopUpSplitsAtAnyCutAndRefusesAbsentIDs': WHATEVER THE INPUT: true; the input reads as it did. -/
def fnTopUpSplitsAtAnyCutAndRefusesAbsentIDsSpec : ChangeSpec := { name := "fnTopUpSplitsAtAnyCutAndRefusesAbsentIDs", fn := fun _ => fun
  | [d1, d2, d3] => { results := [.lit (.bool true)], args := [d1, d2, d3] }
  | _ => none }
def fnTopUpSplitsAtAnyCutAndRefusesAbsentIDsRow : OpenClaim := { program := "qxb6623445a", sum := "ea17a25f2e51cfc276a394fb4a4b5401309e2345cee5ea90260e97e588f03100", func := "example.com/tollgate/tollgate/zzlaws_catalog_b1.FnTopUpSplitsAtAnyCutAndRefusesAbsentIDs", spec := "fnTopUpSplitsAtAnyCutAndRefusesAbsentIDs", apart := false }
def FnTopUpSplitsAtAnyCutAndRefusesAbsentIDsSaid : Prop := fnTopUpSplitsAtAnyCutAndRefusesAbsentIDsRow.holds Try.pinned (OpenSpec.ofChange fnTopUpSplitsAtAnyCutAndRefusesAbsentIDsSpec)

/-- ITS FALSE NEIGHBOUR: 'it returns false'. Refute it at one input. -/
def fnTopUpSplitsAtAnyCutAndRefusesAbsentIDsWrong : ChangeSpec := { name := "fnTopUpSplitsAtAnyCutAndRefusesAbsentIDs", fn := fun _ => fun
  | [d1, d2, d3] => { results := [.lit (.bool false)], args := [d1, d2, d3] }
  | _ => none }
def FnTopUpSplitsAtAnyCutAndRefusesAbsentIDsWrongFalsely : Prop := fnTopUpSplitsAtAnyCutAndRefusesAbsentIDsRow.holds Try.pinned (OpenSpec.ofChange fnTopUpSplitsAtAnyCutAndRefusesAbsentIDsWrong)

end Rows
end Go.Proofs.Qxb6623445a
