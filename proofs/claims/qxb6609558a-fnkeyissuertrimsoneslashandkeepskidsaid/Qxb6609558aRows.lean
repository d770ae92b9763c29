/-
  No cell of these rows narrows 'for every input' (looked for: loops, veiled, ifaces, maps, wideKeys, modest, calm, conditions, laid).
  DERIVED. THE GIVEN ROWS OF THIS SEAT. 1 by the template 'for every input the law returns true; each argument reads behind the call as it read before'; 0 by the template 'total and deterministic' (their statements: Qxb6609558aTotals.lean).
  GIVEN WITH THE SEED: the statements are not yours to turn. If you find one false, say at which input.
  Laid BY PROGRAM, IN A SANDBOX (cutbox-rows.mjs): the forced cells as the released guide's own fill.sh prints them over the translation 1c4992f4e6413cdd… (all of the seat's roots in one cut). By AI agents, Wed Nov 11 2026. No macro, syntax, notation, axiom, sorry.
-/
import Derived.Test.Qxb6609558aChecked
import GoSem.Claim
import GoSem.ClaimJoined
import GoSem.ClaimMapViews
import Derived.JoinedTies
import Derived.KernelRfl
namespace Go.Proofs.Qxb6609558a
/- THE CELL 'sum', in the pinned program and in every row, IS THE sha256 OF THE DUMP (.gsa) THAT Qxb6609558aProg.lean LOADS. Nothing in Lean hashes anything: it is a label: what it is worth is what the hold of that sum in a sandbox is worth. -/
noncomputable def Try.pinned : Pinned := { name := "qxb6609558a", sum := "1c4992f4e6413cdd10d0ca62c638bb558a86bcd248fd31a4cbe3366e1734f6b7", checked := Try.checked }
namespace Rows
def none {H : Type} : Left H := { results := [], args := [] }

/-- 'zzlaws_root_b1.FnKeyIssuerTrimsOneSlashAndKeepsKid': WHATEVER THE INPUT: true; the input reads as it did. -/
def fnKeyIssuerTrimsOneSlashAndKeepsKidSpec : ChangeSpec := { name := "fnKeyIssuerTrimsOneSlashAndKeepsKid", fn := fun _ => fun
  | [d1, d2] => { results := [.lit (.bool true)], args := [d1, d2] }
  | _ => none }
def fnKeyIssuerTrimsOneSlashAndKeepsKidRow : OpenClaim := { program := "qxb6609558a", sum := "1c4992f4e6413cdd10d0ca62c638bb558a86bcd248fd31a4cbe3366e1734f6b7", func := "example.com/betoken/betoken/zzlaws_root_b1.FnKeyIssuerTrimsOneSlashAndKeepsKid", spec := "fnKeyIssuerTrimsOneSlashAndKeepsKid", apart := false }
def FnKeyIssuerTrimsOneSlashAndKeepsKidSaid : Prop := fnKeyIssuerTrimsOneSlashAndKeepsKidRow.holds Try.pinned (OpenSpec.ofChange fnKeyIssuerTrimsOneSlashAndKeepsKidSpec)

/-- ITS FALSE NEIGHBOUR: 'it returns false'. Refute it at one input. -/
def fnKeyIssuerTrimsOneSlashAndKeepsKidWrong : ChangeSpec := { name := "fnKeyIssuerTrimsOneSlashAndKeepsKid", fn := fun _ => fun
  | [d1, d2] => { results := [.lit (.bool false)], args := [d1, d2] }
  | _ => none }
def FnKeyIssuerTrimsOneSlashAndKeepsKidWrongFalsely : Prop := fnKeyIssuerTrimsOneSlashAndKeepsKidRow.holds Try.pinned (OpenSpec.ofChange fnKeyIssuerTrimsOneSlashAndKeepsKidWrong)

end Rows
end Go.Proofs.Qxb6609558a
