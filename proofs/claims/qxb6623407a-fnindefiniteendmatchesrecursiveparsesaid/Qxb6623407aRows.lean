/-
  No cell of these rows narrows 'for every input' (looked for: loops, veiled, ifaces, maps, wideKeys, modest, calm, conditions, laid).
  DERIVED. THE GIVEN ROWS OF THIS SEAT. 1 by the template 'for every input the law returns true; each argument reads behind the call as it read before'; 0 by the template 'total and deterministic' (their statements: Qxb6623407aTotals.lean).
  GIVEN WITH THE SEED: the statements are not yours to turn. If you find one false, say at which input.
  Laid BY PROGRAM, IN A SANDBOX (cutbox-rows.mjs): the forced cells as the released guide's own fill.sh prints them over the translation 22304717dd6d16cd… (all of the seat's roots in one cut). By AI agents, Wed Nov 11 2026. No macro, syntax, notation, axiom, sorry.
-/
import Derived.Test.Qxb6623407aChecked
import GoSem.Claim
import GoSem.ClaimJoined
import GoSem.ClaimMapViews
import Derived.JoinedTies
import Derived.KernelRfl
namespace Go.Proofs.Qxb6623407a
/- THE CELL 'sum', in the pinned program and in every row, IS THE sha256 OF THE DUMP (.gsa) THAT Qxb6623407aProg.lean LOADS. Nothing in Lean hashes anything: it is a label: what it is worth is what the hold of that sum in a sandbox is worth. -/
noncomputable def Try.pinned : Pinned := { name := "qxb6623407a", sum := "22304717dd6d16cdd48239c1b5fdfda55b652200a0fb671db4d6d318991a92a1", checked := Try.checked }
namespace Rows
def none {H : Type} : Left H := { results := [], args := [] }

/-- 'zzlaws_pkg_cms_b1.FnIndefiniteEndMatchesRecursiveParse': WHATEVER THE INPUT: true; the input reads as it did. -/
def fnIndefiniteEndMatchesRecursiveParseSpec : ChangeSpec := { name := "fnIndefiniteEndMatchesRecursiveParse", fn := fun _ => fun
  | [d1, d2] => { results := [.lit (.bool true)], args := [d1, d2] }
  | _ => none }
def fnIndefiniteEndMatchesRecursiveParseRow : OpenClaim := { program := "qxb6623407a", sum := "22304717dd6d16cdd48239c1b5fdfda55b652200a0fb671db4d6d318991a92a1", func := "example.com/staplewright/staplewright/zzlaws_pkg_cms_b1.FnIndefiniteEndMatchesRecursiveParse", spec := "fnIndefiniteEndMatchesRecursiveParse", recurses := true, apart := false }
def FnIndefiniteEndMatchesRecursiveParseSaid : Prop := fnIndefiniteEndMatchesRecursiveParseRow.holds Try.pinned (OpenSpec.ofChange fnIndefiniteEndMatchesRecursiveParseSpec)

/-- ITS FALSE NEIGHBOUR: 'it returns false'. Refute it at one input. -/
def fnIndefiniteEndMatchesRecursiveParseWrong : ChangeSpec := { name := "fnIndefiniteEndMatchesRecursiveParse", fn := fun _ => fun
  | [d1, d2] => { results := [.lit (.bool false)], args := [d1, d2] }
  | _ => none }
def FnIndefiniteEndMatchesRecursiveParseWrongFalsely : Prop := fnIndefiniteEndMatchesRecursiveParseRow.holds Try.pinned (OpenSpec.ofChange fnIndefiniteEndMatchesRecursiveParseWrong)

end Rows
end Go.Proofs.Qxb6623407a
