/-
  No cell of these rows narrows 'for every input' (looked for: loops, veiled, ifaces, maps, wideKeys, modest, calm, conditions, laid).
  DERIVED. THE GIVEN ROWS OF THIS SEAT. 1 by the template 'for every input the law returns true; each argument reads behind the call as it read before'; 0 by the template 'total and deterministic' (their statements: Qxb6601831aTotals.lean).
  GIVEN WITH THE SEED: the statements are not yours to turn. If you find one false, say at which input.
  Laid BY PROGRAM, IN A SANDBOX (cutbox-rows.mjs): the forced cells as the released guide's own fill.sh prints them over the translation 03cf1a953efa5432… (all of the seat's roots in one cut). By AI agents, Wed Nov 11 2026. No macro, syntax, notation, axiom, sorry.
-/
import Derived.Test.Qxb6601831aChecked
import GoSem.Claim
import GoSem.ClaimJoined
import GoSem.ClaimMapViews
import Derived.JoinedTies
import Derived.KernelRfl
namespace Go.Proofs.Qxb6601831a
/- THE CELL 'sum', in the pinned program and in every row, IS THE sha256 OF THE DUMP (.gsa) THAT Qxb6601831aProg.lean LOADS. Nothing in Lean hashes anything: it is a label: what it is worth is what the hold of that sum in a sandbox is worth. -/
noncomputable def Try.pinned : Pinned := { name := "qxb6601831a", sum := "03cf1a953efa543213a2657092314557c648cbc8e9bd2a8392b31e87cd4a4873", checked := Try.checked }
namespace Rows
def none {H : Type} : Left H := { results := [], args := [] }

/-- 'zzlaws_tomlfile_b1.FnChildKeepsFirstStatementOfEachName': WHATEVER THE INPUT: true; the input reads as it did. -/
def fnChildKeepsFirstStatementOfEachNameSpec : ChangeSpec := { name := "fnChildKeepsFirstStatementOfEachName", fn := fun _ => fun
  | [d] => { results := [.lit (.bool true)], args := [d] }
  | _ => none }
def fnChildKeepsFirstStatementOfEachNameRow : OpenClaim := { program := "qxb6601831a", sum := "03cf1a953efa543213a2657092314557c648cbc8e9bd2a8392b31e87cd4a4873", func := "example.com/vestbook/vestbook/zzlaws_tomlfile_b1.FnChildKeepsFirstStatementOfEachName", spec := "fnChildKeepsFirstStatementOfEachName", apart := false }
def FnChildKeepsFirstStatementOfEachNameSaid : Prop := fnChildKeepsFirstStatementOfEachNameRow.holds Try.pinned (OpenSpec.ofChange fnChildKeepsFirstStatementOfEachNameSpec)

/-- ITS FALSE NEIGHBOUR: 'it returns false'. Refute it at one input. -/
def fnChildKeepsFirstStatementOfEachNameWrong : ChangeSpec := { name := "fnChildKeepsFirstStatementOfEachName", fn := fun _ => fun
  | [d] => { results := [.lit (.bool false)], args := [d] }
  | _ => none }
def FnChildKeepsFirstStatementOfEachNameWrongFalsely : Prop := fnChildKeepsFirstStatementOfEachNameRow.holds Try.pinned (OpenSpec.ofChange fnChildKeepsFirstStatementOfEachNameWrong)

end Rows
end Go.Proofs.Qxb6601831a
