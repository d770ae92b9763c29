/-
  No cell of these rows narrows 'for every input' (looked for: loops, veiled, ifaces, maps, wideKeys, modest, calm, conditions, laid).
  DERIVED. THE GIVEN ROWS OF THIS SEAT. 1 by the template 'for every input the law returns true; each argument reads behind the call as it read before'; 0 by the template 'total and deterministic' (their statements: Qxb6609383aTotals.lean).
  GIVEN WITH THE SEED: the statements are not yours to turn. If you find one false, say at which input.
  Laid BY PROGRAM, IN A SANDBOX (cutbox-rows.mjs): the forced cells as the released guide's own fill.sh prints them over the translation 76a1726ed5f57d9a… (all of the seat's roots in one cut). By AI agents, Wed Nov 11 2026. No macro, syntax, notation, axiom, sorry.
-/
import Derived.Test.Qxb6609383aChecked
import GoSem.Claim
import GoSem.ClaimJoined
import GoSem.ClaimMapViews
import Derived.JoinedTies
import Derived.KernelRfl
namespace Go.Proofs.Qxb6609383a
/- THE CELL 'sum', in the pinned program and in every row, IS THE sha256 OF THE DUMP (.gsa) THAT Qxb6609383aProg.lean LOADS. Nothing in Lean hashes anything: it is a label: what it is worth is what the hold of that sum in a sandbox is worth. -/
noncomputable def Try.pinned : Pinned := { name := "qxb6609383a", sum := "76a1726ed5f57d9a5b431027e552ba39b877ce5afddaa0aa93ef6beb01d1fe5d", checked := Try.checked }
namespace Rows
def none {H : Type} : Left H := { results := [], args := [] }

/-- 'zzlaws_internal_git_b1.FnBranchRefKeepsNamesApartAndInOrder': WHATEVER THE INPUT: true; the input reads as it did. -/
def fnBranchRefKeepsNamesApartAndInOrderSpec : ChangeSpec := { name := "fnBranchRefKeepsNamesApartAndInOrder", fn := fun _ => fun
  | [d1, d2] => { results := [.lit (.bool true)], args := [d1, d2] }
  | _ => none }
def fnBranchRefKeepsNamesApartAndInOrderRow : OpenClaim := { program := "qxb6609383a", sum := "76a1726ed5f57d9a5b431027e552ba39b877ce5afddaa0aa93ef6beb01d1fe5d", func := "example.com/drover/drover/zzlaws_internal_git_b1.FnBranchRefKeepsNamesApartAndInOrder", spec := "fnBranchRefKeepsNamesApartAndInOrder", apart := false }
def FnBranchRefKeepsNamesApartAndInOrderSaid : Prop := fnBranchRefKeepsNamesApartAndInOrderRow.holds Try.pinned (OpenSpec.ofChange fnBranchRefKeepsNamesApartAndInOrderSpec)

/-- ITS FALSE NEIGHBOUR: 'it returns false'. Refute it at one input. -/
def fnBranchRefKeepsNamesApartAndInOrderWrong : ChangeSpec := { name := "fnBranchRefKeepsNamesApartAndInOrder", fn := fun _ => fun
  | [d1, d2] => { results := [.lit (.bool false)], args := [d1, d2] }
  | _ => none }
def FnBranchRefKeepsNamesApartAndInOrderWrongFalsely : Prop := fnBranchRefKeepsNamesApartAndInOrderRow.holds Try.pinned (OpenSpec.ofChange fnBranchRefKeepsNamesApartAndInOrderWrong)

end Rows
end Go.Proofs.Qxb6609383a
