/-
  No cell of these rows narrows 'for every input' (looked for: loops, veiled, ifaces, maps, wideKeys, modest, calm, conditions, laid).
  DERIVED. THE GIVEN ROWS OF THIS SEAT. 1 by the template 'for every input the law returns true; each argument reads behind the call as it read before'; 0 by the template 'total and deterministic' (their statements: Qxb6609487aTotals.lean).
  GIVEN WITH THE SEED: the statements are not yours to turn. If you find one false, say at which input.
  Laid BY PROGRAM, IN A SANDBOX (cutbox-rows.mjs): the forced cells as the released guide's own fill.sh prints them over the translation d975369c1008327b… (all of the seat's roots in one cut). By AI agents, Wed Nov 11 2026. No macro, syntax, notation, axiom, sorry.
-/
import Derived.Test.Qxb6609487aChecked
import GoSem.Claim
import GoSem.ClaimJoined
import GoSem.ClaimMapViews
import Derived.JoinedTies
import Derived.KernelRfl
namespace Go.Proofs.Qxb6609487a
/- THE CELL 'sum', in the pinned program and in every row, IS THE sha256 OF THE DUMP (.gsa) THAT Qxb6609487aProg.lean LOADS. Nothing in Lean hashes anything: it is a label: what it is worth is what the hold of that sum in a sandbox is worth. -/
noncomputable def Try.pinned : Pinned := { name := "qxb6609487a", sum := "d975369c1008327be290edf3ec55bdc8b9c894f74cfa769c5ba9948151d301dc", checked := Try.checked }
namespace Rows
def none {H : Type} : Left H := { results := [], args := [] }

/-- 'zzlaws_ipk_b1.FnFileNameSplitsBackIntoItsFields': WHATEVER THE INPUT: true; the input reads as it did. -/
def fnFileNameSplitsBackIntoItsFieldsSpec : ChangeSpec := { name := "fnFileNameSplitsBackIntoItsFields", fn := fun _ => fun
  | [d1, d2, d3, d4, d5, d6, d7, d8, d9, d10] => { results := [.lit (.bool true)], args := [d1, d2, d3, d4, d5, d6, d7, d8, d9, d10] }
  | _ => none }
def fnFileNameSplitsBackIntoItsFieldsRow : OpenClaim := { program := "qxb6609487a", sum := "d975369c1008327be290edf3ec55bdc8b9c894f74cfa769c5ba9948151d301dc", func := "example.com/larder/larder/zzlaws_ipk_b1.FnFileNameSplitsBackIntoItsFields", spec := "fnFileNameSplitsBackIntoItsFields", apart := false }
def FnFileNameSplitsBackIntoItsFieldsSaid : Prop := fnFileNameSplitsBackIntoItsFieldsRow.holds Try.pinned (OpenSpec.ofChange fnFileNameSplitsBackIntoItsFieldsSpec)

/-- ITS FALSE NEIGHBOUR: 'it returns false'. Refute it at one input. -/
def fnFileNameSplitsBackIntoItsFieldsWrong : ChangeSpec := { name := "fnFileNameSplitsBackIntoItsFields", fn := fun _ => fun
  | [d1, d2, d3, d4, d5, d6, d7, d8, d9, d10] => { results := [.lit (.bool false)], args := [d1, d2, d3, d4, d5, d6, d7, d8, d9, d10] }
  | _ => none }
def FnFileNameSplitsBackIntoItsFieldsWrongFalsely : Prop := fnFileNameSplitsBackIntoItsFieldsRow.holds Try.pinned (OpenSpec.ofChange fnFileNameSplitsBackIntoItsFieldsWrong)

end Rows
end Go.Proofs.Qxb6609487a
