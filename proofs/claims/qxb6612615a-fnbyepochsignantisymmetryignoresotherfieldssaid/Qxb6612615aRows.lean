/-
  No cell of these rows narrows 'for every input' (looked for: loops, veiled, ifaces, maps, wideKeys, modest, calm, conditions, laid).
  DERIVED. THE GIVEN ROWS OF THIS SEAT. 1 by the template 'for every input the law returns true; each argument reads behind the call as it read before'; 0 by the template 'total and deterministic' (their statements: Qxb6612615aTotals.lean).
  GIVEN WITH THE SEED: the statements are not yours to turn. If you find one false, say at which input.
  Laid BY PROGRAM, IN A SANDBOX (cutbox-rows.mjs): the forced cells as the released guide's own fill.sh prints them over the translation c60ef951b142770b… (all of the seat's roots in one cut). By AI agents, Wed Nov 11 2026. No macro, syntax, notation, axiom, sorry.
-/
import Derived.Test.Qxb6612615aChecked
import GoSem.Claim
import GoSem.ClaimJoined
import GoSem.ClaimMapViews
import Derived.JoinedTies
import Derived.KernelRfl
namespace Go.Proofs.Qxb6612615a
/- THE CELL 'sum', in the pinned program and in every row, IS THE sha256 OF THE DUMP (.gsa) THAT Qxb6612615aProg.lean LOADS. Nothing in Lean hashes anything: it is a label: what it is worth is what the hold of that sum in a sandbox is worth. -/
noncomputable def Try.pinned : Pinned := { name := "qxb6612615a", sum := "c60ef951b142770b74a7c28296d34bdc27461bbb9b7e57d3960d3057ceb711a9", checked := Try.checked }
namespace Rows
def none {H : Type} : Left H := { results := [], args := [] }

/-- 'zzlaws_streamlet_b1.FnByEpochSignAntisymmetryIgnoresOtherFields': WHATEVER THE INPUT: true; the input reads as it did. -/
def fnByEpochSignAntisymmetryIgnoresOtherFieldsSpec : ChangeSpec := { name := "fnByEpochSignAntisymmetryIgnoresOtherFields", fn := fun _ => fun
  | [d1, d2, d3, d4, d5, d6] => { results := [.lit (.bool true)], args := [d1, d2, d3, d4, d5, d6] }
  | _ => none }
def fnByEpochSignAntisymmetryIgnoresOtherFieldsRow : OpenClaim := { program := "qxb6612615a", sum := "c60ef951b142770b74a7c28296d34bdc27461bbb9b7e57d3960d3057ceb711a9", func := "example.com/airquorum/airquorum/zzlaws_streamlet_b1.FnByEpochSignAntisymmetryIgnoresOtherFields", spec := "fnByEpochSignAntisymmetryIgnoresOtherFields", apart := false }
def FnByEpochSignAntisymmetryIgnoresOtherFieldsSaid : Prop := fnByEpochSignAntisymmetryIgnoresOtherFieldsRow.holds Try.pinned (OpenSpec.ofChange fnByEpochSignAntisymmetryIgnoresOtherFieldsSpec)

/-- ITS FALSE NEIGHBOUR: 'it returns false'. Refute it at one input. -/
def fnByEpochSignAntisymmetryIgnoresOtherFieldsWrong : ChangeSpec := { name := "fnByEpochSignAntisymmetryIgnoresOtherFields", fn := fun _ => fun
  | [d1, d2, d3, d4, d5, d6] => { results := [.lit (.bool false)], args := [d1, d2, d3, d4, d5, d6] }
  | _ => none }
def FnByEpochSignAntisymmetryIgnoresOtherFieldsWrongFalsely : Prop := fnByEpochSignAntisymmetryIgnoresOtherFieldsRow.holds Try.pinned (OpenSpec.ofChange fnByEpochSignAntisymmetryIgnoresOtherFieldsWrong)

end Rows
end Go.Proofs.Qxb6612615a
