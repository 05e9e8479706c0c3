/-
  No cell of these rows narrows 'for every input' (looked for: loops, veiled, ifaces, maps, wideKeys, modest, calm, conditions, laid).
  DERIVED. THE GIVEN ROWS OF THIS SEAT. 2 by the template 'for every input the law returns true; each argument reads behind the call as it read before'; 0 by the template 'total and deterministic' (their statements: Qxb6623335aTotals.lean).
  GIVEN WITH THE SEED: the statements are not yours to turn. If you find one false, say at which input.
  Laid BY PROGRAM, IN A SANDBOX (cutbox-rows.mjs): the forced cells as the released guide's own fill.sh prints them over the translation daeb6b5d481e4530… (all of the seat's roots in one cut). By AI agents, Wed Nov 11 2026. No macro, syntax, notation, axiom, sorry.
-/
import Derived.Test.Qxb6623335aChecked
import GoSem.Claim
import GoSem.ClaimJoined
import GoSem.ClaimMapViews
import Derived.JoinedTies
import Derived.KernelRfl
namespace Go.Proofs.Qxb6623335a
/- THE CELL 'sum', in the pinned program and in every row, IS THE sha256 OF THE DUMP (.gsa) THAT Qxb6623335aProg.lean LOADS. Nothing in Lean hashes anything: it is a label: what it is worth is what the hold of that sum in a sandbox is worth. -/
noncomputable def Try.pinned : Pinned := { name := "qxb6623335a", sum := "daeb6b5d481e4530953424e33826920ebf53fe1f6d9460e6a39fcd113e4c001f", checked := Try.checked }
namespace Rows
def none {H : Type} : Left H := { results := [], args := [] }

/-- 'zzlaws_internal_sim_b1.FnPosAtMovesWithTime': WHATEVER THE INPUT: true; the input reads as it did. -/
def fnPosAtMovesWithTimeSpec : ChangeSpec := { name := "fnPosAtMovesWithTime", fn := fun _ => fun
  | [d1, d2, d3, d4, d5, d6] => { results := [.lit (.bool true)], args := [d1, d2, d3, d4, d5, d6] }
  | _ => none }
def fnPosAtMovesWithTimeRow : OpenClaim := { program := "qxb6623335a", sum := "daeb6b5d481e4530953424e33826920ebf53fe1f6d9460e6a39fcd113e4c001f", func := "example.com/peerlode/peerlode/zzlaws_internal_sim_b1.FnPosAtMovesWithTime", spec := "fnPosAtMovesWithTime", apart := false }
def FnPosAtMovesWithTimeSaid : Prop := fnPosAtMovesWithTimeRow.holds Try.pinned (OpenSpec.ofChange fnPosAtMovesWithTimeSpec)

/-- ITS FALSE NEIGHBOUR: 'it returns false'. Refute it at one input. -/
def fnPosAtMovesWithTimeWrong : ChangeSpec := { name := "fnPosAtMovesWithTime", fn := fun _ => fun
  | [d1, d2, d3, d4, d5, d6] => { results := [.lit (.bool false)], args := [d1, d2, d3, d4, d5, d6] }
  | _ => none }
def FnPosAtMovesWithTimeWrongFalsely : Prop := fnPosAtMovesWithTimeRow.holds Try.pinned (OpenSpec.ofChange fnPosAtMovesWithTimeWrong)

/-- 'zzlaws_internal_sim_b1.FnPosAtRecordedChangeKeepsPlace': WHATEVER THE INPUT: true; the input reads as it did. -/
def fnPosAtRecordedChangeKeepsPlaceSpec : ChangeSpec := { name := "fnPosAtRecordedChangeKeepsPlace", fn := fun _ => fun
  | [d1, d2, d3, d4, d5, d6, d7, d8, d9] => { results := [.lit (.bool true)], args := [d1, d2, d3, d4, d5, d6, d7, d8, d9] }
  | _ => none }
def fnPosAtRecordedChangeKeepsPlaceRow : OpenClaim := { program := "qxb6623335a", sum := "daeb6b5d481e4530953424e33826920ebf53fe1f6d9460e6a39fcd113e4c001f", func := "example.com/peerlode/peerlode/zzlaws_internal_sim_b1.FnPosAtRecordedChangeKeepsPlace", spec := "fnPosAtRecordedChangeKeepsPlace", apart := false }
def FnPosAtRecordedChangeKeepsPlaceSaid : Prop := fnPosAtRecordedChangeKeepsPlaceRow.holds Try.pinned (OpenSpec.ofChange fnPosAtRecordedChangeKeepsPlaceSpec)

/-- ITS FALSE NEIGHBOUR: 'it returns false'. Refute it at one input. -/
def fnPosAtRecordedChangeKeepsPlaceWrong : ChangeSpec := { name := "fnPosAtRecordedChangeKeepsPlace", fn := fun _ => fun
  | [d1, d2, d3, d4, d5, d6, d7, d8, d9] => { results := [.lit (.bool false)], args := [d1, d2, d3, d4, d5, d6, d7, d8, d9] }
  | _ => none }
def FnPosAtRecordedChangeKeepsPlaceWrongFalsely : Prop := fnPosAtRecordedChangeKeepsPlaceRow.holds Try.pinned (OpenSpec.ofChange fnPosAtRecordedChangeKeepsPlaceWrong)

end Rows
end Go.Proofs.Qxb6623335a
