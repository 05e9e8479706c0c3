/-
  No cell of these rows narrows 'for every input' (looked for: loops, veiled, ifaces, maps, wideKeys, modest, calm, conditions, laid).
  DERIVED. THE GIVEN ROWS OF THIS SEAT. 1 by the template 'for every input the law returns true; each argument reads behind the call as it read before'; 0 by the template 'total and deterministic' (their statements: Qxb6623353aTotals.lean).
  GIVEN WITH THE SEED: the statements are not yours to turn. If you find one false, say at which input.
  Laid BY PROGRAM, IN A SANDBOX (cutbox-rows.mjs): the forced cells as the released guide's own fill.sh prints them over the translation 1d5adeaf311e86f8… (all of the seat's roots in one cut). By AI agents, Wed Nov 11 2026. No macro, syntax, notation, axiom, sorry.
-/
import Derived.Test.Qxb6623353aChecked
import GoSem.Claim
import GoSem.ClaimJoined
import GoSem.ClaimMapViews
import Derived.JoinedTies
import Derived.KernelRfl
namespace Go.Proofs.Qxb6623353a
/- THE CELL 'sum', in the pinned program and in every row, IS THE sha256 OF THE DUMP (.gsa) THAT Qxb6623353aProg.lean LOADS. Nothing in Lean hashes anything: it is a label: what it is worth is what the hold of that sum in a sandbox is worth. -/
noncomputable def Try.pinned : Pinned := { name := "qxb6623353a", sum := "1d5adeaf311e86f8df50286d517b7e66935573b7d259d97c4d54e455b84c523b", checked := Try.checked }
namespace Rows
def none {H : Type} : Left H := { results := [], args := [] }

/-- 'zzlaws_root_b1.FnBoolRankIsBooleanEmbedding': WHATEVER THE INPUT: true; the input reads as it did. -/
def fnBoolRankIsBooleanEmbeddingSpec : ChangeSpec := { name := "fnBoolRankIsBooleanEmbedding", fn := fun _ => fun
  | [d1, d2] => { results := [.lit (.bool true)], args := [d1, d2] }
  | _ => none }
def fnBoolRankIsBooleanEmbeddingRow : OpenClaim := { program := "qxb6623353a", sum := "1d5adeaf311e86f8df50286d517b7e66935573b7d259d97c4d54e455b84c523b", func := "example.com/ironclad-layouts/ironclad-layouts/zzlaws_root_b1.FnBoolRankIsBooleanEmbedding", spec := "fnBoolRankIsBooleanEmbedding", apart := false }
def FnBoolRankIsBooleanEmbeddingSaid : Prop := fnBoolRankIsBooleanEmbeddingRow.holds Try.pinned (OpenSpec.ofChange fnBoolRankIsBooleanEmbeddingSpec)

/-- ITS FALSE NEIGHBOUR: 'it returns false'. Refute it at one input. -/
def fnBoolRankIsBooleanEmbeddingWrong : ChangeSpec := { name := "fnBoolRankIsBooleanEmbedding", fn := fun _ => fun
  | [d1, d2] => { results := [.lit (.bool false)], args := [d1, d2] }
  | _ => none }
def FnBoolRankIsBooleanEmbeddingWrongFalsely : Prop := fnBoolRankIsBooleanEmbeddingRow.holds Try.pinned (OpenSpec.ofChange fnBoolRankIsBooleanEmbeddingWrong)

end Rows
end Go.Proofs.Qxb6623353a
