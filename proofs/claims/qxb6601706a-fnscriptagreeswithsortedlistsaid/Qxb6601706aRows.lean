/-
  NARROWER THAN 'FOR EVERY INPUT', by the rows' own cells (each row's printed sentence says how): FnGrowFeedsChildKeepsOrder: loops · FnGrowSettles: loops · FnSetAgreesWithSortedList: loops · FnDeleteAgreesWithSortedList: loops.
  DERIVED. THE GIVEN ROWS OF THIS SEAT. 5 by the template 'for every input the law returns true; each argument reads behind the call as it read before'; 0 by the template 'total and deterministic' (their statements: Qxb6601706aTotals.lean).
  GIVEN WITH THE SEED: the statements are not yours to turn. If you find one false, say at which input.
  Laid BY PROGRAM, IN A SANDBOX (cutbox-rows.mjs): the forced cells as the released guide's own fill.sh prints them over the translation 1c790c8439d8de26… (all of the seat's roots in one cut). By AI agents, Wed Nov 11 2026. No macro, syntax, notation, axiom, sorry.
-/
import Derived.Test.Qxb6601706aChecked
import GoSem.Claim
import GoSem.ClaimJoined
import GoSem.ClaimMapViews
import Derived.JoinedTies
import Derived.KernelRfl
namespace Go.Proofs.Qxb6601706a
/- THE CELL 'sum', in the pinned program and in every row, IS THE sha256 OF THE DUMP (.gsa) THAT Qxb6601706aProg.lean LOADS. Nothing in Lean hashes anything: it is a label: what it is worth is what the hold of that sum in a sandbox is worth. -/
noncomputable def Try.pinned : Pinned := { name := "qxb6601706a", sum := "1c790c8439d8de264fac8e63caefab260d926302059f67fadac479660c260bc0", checked := Try.checked }
namespace Rows
def none {H : Type} : Left H := { results := [], args := [] }

/-- 'zzlaws_kv_b1.FnGrowFeedsChildKeepsOrder': WHATEVER THE INPUT: true; the input reads as it did. -/
def fnGrowFeedsChildKeepsOrderSpec : ChangeSpec := { name := "fnGrowFeedsChildKeepsOrder", fn := fun _ => fun
  | [d1, d2] => { results := [.lit (.bool true)], args := [d1, d2] }
  | _ => none }
def fnGrowFeedsChildKeepsOrderRow : OpenClaim := { program := "qxb6601706a", sum := "1c790c8439d8de264fac8e63caefab260d926302059f67fadac479660c260bc0", func := "example.com/understudy/understudy/zzlaws_kv_b1.FnGrowFeedsChildKeepsOrder", spec := "fnGrowFeedsChildKeepsOrder", inPlace := ["slices.overlaps[example.com/understudy/understudy/kv.entry]", "slices.overlaps[*example.com/understudy/understudy/kv.node]"], recurses := true, loops := true, apart := false }
def FnGrowFeedsChildKeepsOrderSaid : Prop := fnGrowFeedsChildKeepsOrderRow.holds Try.pinned (OpenSpec.ofChange fnGrowFeedsChildKeepsOrderSpec)

/-- ITS FALSE NEIGHBOUR: 'it returns false'. Refute it at one input. -/
def fnGrowFeedsChildKeepsOrderWrong : ChangeSpec := { name := "fnGrowFeedsChildKeepsOrder", fn := fun _ => fun
  | [d1, d2] => { results := [.lit (.bool false)], args := [d1, d2] }
  | _ => none }
def FnGrowFeedsChildKeepsOrderWrongFalsely : Prop := fnGrowFeedsChildKeepsOrderRow.holds Try.pinned (OpenSpec.ofChange fnGrowFeedsChildKeepsOrderWrong)

/-- 'zzlaws_kv_b1.FnGrowSettles': WHATEVER THE INPUT: true; the input reads as it did. -/
def fnGrowSettlesSpec : ChangeSpec := { name := "fnGrowSettles", fn := fun _ => fun
  | [d1, d2] => { results := [.lit (.bool true)], args := [d1, d2] }
  | _ => none }
def fnGrowSettlesRow : OpenClaim := { program := "qxb6601706a", sum := "1c790c8439d8de264fac8e63caefab260d926302059f67fadac479660c260bc0", func := "example.com/understudy/understudy/zzlaws_kv_b1.FnGrowSettles", spec := "fnGrowSettles", inPlace := ["slices.overlaps[example.com/understudy/understudy/kv.entry]", "slices.overlaps[*example.com/understudy/understudy/kv.node]"], recurses := true, loops := true, apart := false }
def FnGrowSettlesSaid : Prop := fnGrowSettlesRow.holds Try.pinned (OpenSpec.ofChange fnGrowSettlesSpec)

/-- ITS FALSE NEIGHBOUR: 'it returns false'. Refute it at one input. -/
def fnGrowSettlesWrong : ChangeSpec := { name := "fnGrowSettles", fn := fun _ => fun
  | [d1, d2] => { results := [.lit (.bool false)], args := [d1, d2] }
  | _ => none }
def FnGrowSettlesWrongFalsely : Prop := fnGrowSettlesRow.holds Try.pinned (OpenSpec.ofChange fnGrowSettlesWrong)

/-- 'zzlaws_kv_b1.FnSetAgreesWithSortedList': WHATEVER THE INPUT: true; the input reads as it did. -/
def fnSetAgreesWithSortedListSpec : ChangeSpec := { name := "fnSetAgreesWithSortedList", fn := fun _ => fun
  | [d1, d2, d3, d4, d5] => { results := [.lit (.bool true)], args := [d1, d2, d3, d4, d5] }
  | _ => none }
def fnSetAgreesWithSortedListRow : OpenClaim := { program := "qxb6601706a", sum := "1c790c8439d8de264fac8e63caefab260d926302059f67fadac479660c260bc0", func := "example.com/understudy/understudy/zzlaws_kv_b1.FnSetAgreesWithSortedList", spec := "fnSetAgreesWithSortedList", inPlace := ["internal/bytealg.abigen_runtime_cmpstring", "slices.overlaps[example.com/understudy/understudy/kv.entry]", "slices.overlaps[*example.com/understudy/understudy/kv.node]"], unfollowed := true, recurses := true, loops := true, apart := false }
def FnSetAgreesWithSortedListSaid : Prop := fnSetAgreesWithSortedListRow.holds Try.pinned (OpenSpec.ofChange fnSetAgreesWithSortedListSpec)

/-- ITS FALSE NEIGHBOUR: 'it returns false'. Refute it at one input. -/
def fnSetAgreesWithSortedListWrong : ChangeSpec := { name := "fnSetAgreesWithSortedList", fn := fun _ => fun
  | [d1, d2, d3, d4, d5] => { results := [.lit (.bool false)], args := [d1, d2, d3, d4, d5] }
  | _ => none }
def FnSetAgreesWithSortedListWrongFalsely : Prop := fnSetAgreesWithSortedListRow.holds Try.pinned (OpenSpec.ofChange fnSetAgreesWithSortedListWrong)

/-- 'zzlaws_kv_b1.FnDeleteAgreesWithSortedList': WHATEVER THE INPUT: true; the input reads as it did. -/
def fnDeleteAgreesWithSortedListSpec : ChangeSpec := { name := "fnDeleteAgreesWithSortedList", fn := fun _ => fun
  | [d1, d2] => { results := [.lit (.bool true)], args := [d1, d2] }
  | _ => none }
def fnDeleteAgreesWithSortedListRow : OpenClaim := { program := "qxb6601706a", sum := "1c790c8439d8de264fac8e63caefab260d926302059f67fadac479660c260bc0", func := "example.com/understudy/understudy/zzlaws_kv_b1.FnDeleteAgreesWithSortedList", spec := "fnDeleteAgreesWithSortedList", inPlace := ["internal/bytealg.abigen_runtime_cmpstring", "slices.overlaps[example.com/understudy/understudy/kv.entry]", "slices.overlaps[*example.com/understudy/understudy/kv.node]"], unfollowed := true, recurses := true, loops := true, apart := false }
def FnDeleteAgreesWithSortedListSaid : Prop := fnDeleteAgreesWithSortedListRow.holds Try.pinned (OpenSpec.ofChange fnDeleteAgreesWithSortedListSpec)

/-- ITS FALSE NEIGHBOUR: 'it returns false'. Refute it at one input. -/
def fnDeleteAgreesWithSortedListWrong : ChangeSpec := { name := "fnDeleteAgreesWithSortedList", fn := fun _ => fun
  | [d1, d2] => { results := [.lit (.bool false)], args := [d1, d2] }
  | _ => none }
def FnDeleteAgreesWithSortedListWrongFalsely : Prop := fnDeleteAgreesWithSortedListRow.holds Try.pinned (OpenSpec.ofChange fnDeleteAgreesWithSortedListWrong)

/-- 'zzlaws_kv_b1.FnScriptAgreesWithSortedList': WHATEVER THE INPUT: true; the input reads as it did. -/
def fnScriptAgreesWithSortedListSpec : ChangeSpec := { name := "fnScriptAgreesWithSortedList", fn := fun _ => fun
  | [d1, d2] => { results := [.lit (.bool true)], args := [d1, d2] }
  | _ => none }
def fnScriptAgreesWithSortedListRow : OpenClaim := { program := "qxb6601706a", sum := "1c790c8439d8de264fac8e63caefab260d926302059f67fadac479660c260bc0", func := "example.com/understudy/understudy/zzlaws_kv_b1.FnScriptAgreesWithSortedList", spec := "fnScriptAgreesWithSortedList", inPlace := ["internal/bytealg.abigen_runtime_cmpstring", "slices.overlaps[example.com/understudy/understudy/kv.entry]", "slices.overlaps[*example.com/understudy/understudy/kv.node]"], unfollowed := true, recurses := true, apart := false }
def FnScriptAgreesWithSortedListSaid : Prop := fnScriptAgreesWithSortedListRow.holds Try.pinned (OpenSpec.ofChange fnScriptAgreesWithSortedListSpec)

/-- ITS FALSE NEIGHBOUR: 'it returns false'. Refute it at one input. -/
def fnScriptAgreesWithSortedListWrong : ChangeSpec := { name := "fnScriptAgreesWithSortedList", fn := fun _ => fun
  | [d1, d2] => { results := [.lit (.bool false)], args := [d1, d2] }
  | _ => none }
def FnScriptAgreesWithSortedListWrongFalsely : Prop := fnScriptAgreesWithSortedListRow.holds Try.pinned (OpenSpec.ofChange fnScriptAgreesWithSortedListWrong)

end Rows
end Go.Proofs.Qxb6601706a
