/-
  No cell of these rows narrows 'for every input' (looked for: loops, veiled, ifaces, maps, wideKeys, modest, calm, conditions, laid).
  DERIVED. THE GIVEN ROWS OF THIS SEAT. 4 by the template 'for every input the law returns true; each argument reads behind the call as it read before'; 0 by the template 'total and deterministic' (their statements: Qxb6601526aTotals.lean).
  GIVEN WITH THE SEED: the statements are not yours to turn. If you find one false, say at which input.
  Laid BY PROGRAM, IN A SANDBOX (cutbox-rows.mjs): the forced cells as the released guide's own fill.sh prints them over the translation 502c69c400c253fd… (all of the seat's roots in one cut). By AI agents, Wed Nov 11 2026. No macro, syntax, notation, axiom, sorry.
-/
import Derived.Test.Qxb6601526aChecked
import GoSem.Claim
import GoSem.ClaimJoined
import GoSem.ClaimMapViews
import Derived.JoinedTies
import Derived.KernelRfl
namespace Go.Proofs.Qxb6601526a
/- THE CELL 'sum', in the pinned program and in every row, IS THE sha256 OF THE DUMP (.gsa) THAT Qxb6601526aProg.lean LOADS. Nothing in Lean hashes anything: it is a label: what it is worth is what the hold of that sum in a sandbox is worth. -/
noncomputable def Try.pinned : Pinned := { name := "qxb6601526a", sum := "502c69c400c253fd2e86c0c7ce91e3390875e9a4527121f6462e6e57a592f3f1", checked := Try.checked }
namespace Rows
def none {H : Type} : Left H := { results := [], args := [] }

/-- 'zzlaws_internal_router_b1.FnMatchAgreesWithGlobModel': WHATEVER THE INPUT: true; the input reads as it did. -/
def fnMatchAgreesWithGlobModelSpec : ChangeSpec := { name := "fnMatchAgreesWithGlobModel", fn := fun _ => fun
  | [d1, d2, d3] => { results := [.lit (.bool true)], args := [d1, d2, d3] }
  | _ => none }
def fnMatchAgreesWithGlobModelRow : OpenClaim := { program := "qxb6601526a", sum := "502c69c400c253fd2e86c0c7ce91e3390875e9a4527121f6462e6e57a592f3f1", func := "example.com/reefward/reefward/zzlaws_internal_router_b1.FnMatchAgreesWithGlobModel", spec := "fnMatchAgreesWithGlobModel", recurses := true, apart := false }
def FnMatchAgreesWithGlobModelSaid : Prop := fnMatchAgreesWithGlobModelRow.holds Try.pinned (OpenSpec.ofChange fnMatchAgreesWithGlobModelSpec)

/-- ITS FALSE NEIGHBOUR: 'it returns false'. Refute it at one input. -/
def fnMatchAgreesWithGlobModelWrong : ChangeSpec := { name := "fnMatchAgreesWithGlobModel", fn := fun _ => fun
  | [d1, d2, d3] => { results := [.lit (.bool false)], args := [d1, d2, d3] }
  | _ => none }
def FnMatchAgreesWithGlobModelWrongFalsely : Prop := fnMatchAgreesWithGlobModelRow.holds Try.pinned (OpenSpec.ofChange fnMatchAgreesWithGlobModelWrong)

/-- 'zzlaws_internal_router_b1.FnMatchedSegmentsRebuildFromWildcards': WHATEVER THE INPUT: true; the input reads as it did. -/
def fnMatchedSegmentsRebuildFromWildcardsSpec : ChangeSpec := { name := "fnMatchedSegmentsRebuildFromWildcards", fn := fun _ => fun
  | [d1, d2, d3] => { results := [.lit (.bool true)], args := [d1, d2, d3] }
  | _ => none }
def fnMatchedSegmentsRebuildFromWildcardsRow : OpenClaim := { program := "qxb6601526a", sum := "502c69c400c253fd2e86c0c7ce91e3390875e9a4527121f6462e6e57a592f3f1", func := "example.com/reefward/reefward/zzlaws_internal_router_b1.FnMatchedSegmentsRebuildFromWildcards", spec := "fnMatchedSegmentsRebuildFromWildcards", apart := false }
def FnMatchedSegmentsRebuildFromWildcardsSaid : Prop := fnMatchedSegmentsRebuildFromWildcardsRow.holds Try.pinned (OpenSpec.ofChange fnMatchedSegmentsRebuildFromWildcardsSpec)

/-- ITS FALSE NEIGHBOUR: 'it returns false'. Refute it at one input. -/
def fnMatchedSegmentsRebuildFromWildcardsWrong : ChangeSpec := { name := "fnMatchedSegmentsRebuildFromWildcards", fn := fun _ => fun
  | [d1, d2, d3] => { results := [.lit (.bool false)], args := [d1, d2, d3] }
  | _ => none }
def FnMatchedSegmentsRebuildFromWildcardsWrongFalsely : Prop := fnMatchedSegmentsRebuildFromWildcardsRow.holds Try.pinned (OpenSpec.ofChange fnMatchedSegmentsRebuildFromWildcardsWrong)

/-- 'zzlaws_internal_router_b1.FnFillingMatchesAndGivesBackWildcards': WHATEVER THE INPUT: true; the input reads as it did. -/
def fnFillingMatchesAndGivesBackWildcardsSpec : ChangeSpec := { name := "fnFillingMatchesAndGivesBackWildcards", fn := fun _ => fun
  | [d1, d2, d3, d4] => { results := [.lit (.bool true)], args := [d1, d2, d3, d4] }
  | _ => none }
def fnFillingMatchesAndGivesBackWildcardsRow : OpenClaim := { program := "qxb6601526a", sum := "502c69c400c253fd2e86c0c7ce91e3390875e9a4527121f6462e6e57a592f3f1", func := "example.com/reefward/reefward/zzlaws_internal_router_b1.FnFillingMatchesAndGivesBackWildcards", spec := "fnFillingMatchesAndGivesBackWildcards", apart := false }
def FnFillingMatchesAndGivesBackWildcardsSaid : Prop := fnFillingMatchesAndGivesBackWildcardsRow.holds Try.pinned (OpenSpec.ofChange fnFillingMatchesAndGivesBackWildcardsSpec)

/-- ITS FALSE NEIGHBOUR: 'it returns false'. Refute it at one input. -/
def fnFillingMatchesAndGivesBackWildcardsWrong : ChangeSpec := { name := "fnFillingMatchesAndGivesBackWildcards", fn := fun _ => fun
  | [d1, d2, d3, d4] => { results := [.lit (.bool false)], args := [d1, d2, d3, d4] }
  | _ => none }
def FnFillingMatchesAndGivesBackWildcardsWrongFalsely : Prop := fnFillingMatchesAndGivesBackWildcardsRow.holds Try.pinned (OpenSpec.ofChange fnFillingMatchesAndGivesBackWildcardsWrong)

/-- 'zzlaws_internal_router_b1.FnRestAddsExactlyAnyTail': WHATEVER THE INPUT: true; the input reads as it did. -/
def fnRestAddsExactlyAnyTailSpec : ChangeSpec := { name := "fnRestAddsExactlyAnyTail", fn := fun _ => fun
  | [d1, d2, d3] => { results := [.lit (.bool true)], args := [d1, d2, d3] }
  | _ => none }
def fnRestAddsExactlyAnyTailRow : OpenClaim := { program := "qxb6601526a", sum := "502c69c400c253fd2e86c0c7ce91e3390875e9a4527121f6462e6e57a592f3f1", func := "example.com/reefward/reefward/zzlaws_internal_router_b1.FnRestAddsExactlyAnyTail", spec := "fnRestAddsExactlyAnyTail", apart := false }
def FnRestAddsExactlyAnyTailSaid : Prop := fnRestAddsExactlyAnyTailRow.holds Try.pinned (OpenSpec.ofChange fnRestAddsExactlyAnyTailSpec)

/-- ITS FALSE NEIGHBOUR: 'it returns false'. Refute it at one input. -/
def fnRestAddsExactlyAnyTailWrong : ChangeSpec := { name := "fnRestAddsExactlyAnyTail", fn := fun _ => fun
  | [d1, d2, d3] => { results := [.lit (.bool false)], args := [d1, d2, d3] }
  | _ => none }
def FnRestAddsExactlyAnyTailWrongFalsely : Prop := fnRestAddsExactlyAnyTailRow.holds Try.pinned (OpenSpec.ofChange fnRestAddsExactlyAnyTailWrong)

end Rows
end Go.Proofs.Qxb6601526a
