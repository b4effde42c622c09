/-
  No cell of these rows narrows 'for every input' (looked for: loops, veiled, ifaces, maps, wideKeys, modest, calm, conditions, laid).
  DERIVED. THE GIVEN ROWS OF THIS SEAT. 2 by the template 'for every input the law returns true; each argument reads behind the call as it read before'; 0 by the template 'total and deterministic' (their statements: Qxb6601916aTotals.lean).
  GIVEN WITH THE SEED: the statements are not yours to turn. If you find one false, say at which input.
  Laid BY PROGRAM, IN A SANDBOX (cutbox-rows.mjs): the forced cells as the released guide's own fill.sh prints them over the translation f3ad5bdfb806b728… (all of the seat's roots in one cut). By AI agents, Wed Nov 11 2026. No macro, syntax, notation, axiom, sorry.
-/
import Derived.Test.Qxb6601916aChecked
import GoSem.Claim
import GoSem.ClaimJoined
import GoSem.ClaimMapViews
import Derived.JoinedTies
import Derived.KernelRfl
namespace Go.Proofs.Qxb6601916a
/- THE CELL 'sum', in the pinned program and in every row, IS THE sha256 OF THE DUMP (.gsa) THAT Qxb6601916aProg.lean LOADS. Nothing in Lean hashes anything: it is a label: what it is worth is what the hold of that sum in a sandbox is worth. -/
noncomputable def Try.pinned : Pinned := { name := "qxb6601916a", sum := "f3ad5bdfb806b7281100f13ce3fe1a99e7ee40d356a98c17d22829cff5ab63a5", checked := Try.checked }
namespace Rows
def none {H : Type} : Left H := { results := [], args := [] }

/-- 'zzlaws_internal_instruction_b1.FnElementFindsFirstEntryOfTheName': WHATEVER THE INPUT: true; the input reads as it did. -/
def fnElementFindsFirstEntryOfTheNameSpec : ChangeSpec := { name := "fnElementFindsFirstEntryOfTheName", fn := fun _ => fun
  | [d1, d2] => { results := [.lit (.bool true)], args := [d1, d2] }
  | _ => none }
def fnElementFindsFirstEntryOfTheNameRow : OpenClaim := { program := "qxb6601916a", sum := "f3ad5bdfb806b7281100f13ce3fe1a99e7ee40d356a98c17d22829cff5ab63a5", func := "example.com/tuoguan/tuoguan/zzlaws_internal_instruction_b1.FnElementFindsFirstEntryOfTheName", spec := "fnElementFindsFirstEntryOfTheName", apart := false }
def FnElementFindsFirstEntryOfTheNameSaid : Prop := fnElementFindsFirstEntryOfTheNameRow.holds Try.pinned (OpenSpec.ofChange fnElementFindsFirstEntryOfTheNameSpec)

/-- ITS FALSE NEIGHBOUR: 'it returns false'. Refute it at one input. -/
def fnElementFindsFirstEntryOfTheNameWrong : ChangeSpec := { name := "fnElementFindsFirstEntryOfTheName", fn := fun _ => fun
  | [d1, d2] => { results := [.lit (.bool false)], args := [d1, d2] }
  | _ => none }
def FnElementFindsFirstEntryOfTheNameWrongFalsely : Prop := fnElementFindsFirstEntryOfTheNameRow.holds Try.pinned (OpenSpec.ofChange fnElementFindsFirstEntryOfTheNameWrong)

/-- 'zzlaws_internal_instruction_b1.FnElementOfAConcatenation': WHATEVER THE INPUT: true; the input reads as it did. -/
def fnElementOfAConcatenationSpec : ChangeSpec := { name := "fnElementOfAConcatenation", fn := fun _ => fun
  | [d1, d2, d3] => { results := [.lit (.bool true)], args := [d1, d2, d3] }
  | _ => none }
def fnElementOfAConcatenationRow : OpenClaim := { program := "qxb6601916a", sum := "f3ad5bdfb806b7281100f13ce3fe1a99e7ee40d356a98c17d22829cff5ab63a5", func := "example.com/tuoguan/tuoguan/zzlaws_internal_instruction_b1.FnElementOfAConcatenation", spec := "fnElementOfAConcatenation", apart := false }
def FnElementOfAConcatenationSaid : Prop := fnElementOfAConcatenationRow.holds Try.pinned (OpenSpec.ofChange fnElementOfAConcatenationSpec)

/-- ITS FALSE NEIGHBOUR: 'it returns false'. Refute it at one input. -/
def fnElementOfAConcatenationWrong : ChangeSpec := { name := "fnElementOfAConcatenation", fn := fun _ => fun
  | [d1, d2, d3] => { results := [.lit (.bool false)], args := [d1, d2, d3] }
  | _ => none }
def FnElementOfAConcatenationWrongFalsely : Prop := fnElementOfAConcatenationRow.holds Try.pinned (OpenSpec.ofChange fnElementOfAConcatenationWrong)

end Rows
end Go.Proofs.Qxb6601916a
