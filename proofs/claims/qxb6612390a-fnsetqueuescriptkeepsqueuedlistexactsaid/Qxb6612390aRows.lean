/-
  No cell of these rows narrows 'for every input' (looked for: loops, veiled, ifaces, maps, wideKeys, modest, calm, conditions, laid).
  DERIVED. THE GIVEN ROWS OF THIS SEAT. 4 by the template 'for every input the law returns true; each argument reads behind the call as it read before'; 0 by the template 'total and deterministic' (their statements: Qxb6612390aTotals.lean).
  GIVEN WITH THE SEED: the statements are not yours to turn. If you find one false, say at which input.
  Laid BY PROGRAM, IN A SANDBOX (cutbox-rows.mjs): the forced cells as the released guide's own fill.sh prints them over the translation d7cab7adcd2a80bd… (all of the seat's roots in one cut). By AI agents, Wed Nov 11 2026. No macro, syntax, notation, axiom, sorry.
-/
import Derived.Test.Qxb6612390aChecked
import GoSem.Claim
import GoSem.ClaimJoined
import GoSem.ClaimMapViews
import Derived.JoinedTies
import Derived.KernelRfl
namespace Go.Proofs.Qxb6612390a
/- THE CELL 'sum', in the pinned program and in every row, IS THE sha256 OF THE DUMP (.gsa) THAT Qxb6612390aProg.lean LOADS. Nothing in Lean hashes anything: it is a label: what it is worth is what the hold of that sum in a sandbox is worth. -/
noncomputable def Try.pinned : Pinned := { name := "qxb6612390a", sum := "d7cab7adcd2a80bdf8d553a747e9243f9b06bcfc9b98262c04eabb38dafeb19f", checked := Try.checked }
namespace Rows
def none {H : Type} : Left H := { results := [], args := [] }

/-- 'zzlaws_root_b1.FnModeTableValidCountsTheNames': WHATEVER THE INPUT: true; the input reads as it did. -/
def fnModeTableValidCountsTheNamesSpec : ChangeSpec := { name := "fnModeTableValidCountsTheNames", fn := fun _ => fun
  | [d] => { results := [.lit (.bool true)], args := [d] }
  | _ => none }
def fnModeTableValidCountsTheNamesRow : OpenClaim := { program := "qxb6612390a", sum := "d7cab7adcd2a80bdf8d553a747e9243f9b06bcfc9b98262c04eabb38dafeb19f", func := "example.com/knotcutter/knotcutter/zzlaws_root_b1.FnModeTableValidCountsTheNames", spec := "fnModeTableValidCountsTheNames", apart := false }
def FnModeTableValidCountsTheNamesSaid : Prop := fnModeTableValidCountsTheNamesRow.holds Try.pinned (OpenSpec.ofChange fnModeTableValidCountsTheNamesSpec)

/-- ITS FALSE NEIGHBOUR: 'it returns false'. Refute it at one input. -/
def fnModeTableValidCountsTheNamesWrong : ChangeSpec := { name := "fnModeTableValidCountsTheNames", fn := fun _ => fun
  | [d] => { results := [.lit (.bool false)], args := [d] }
  | _ => none }
def FnModeTableValidCountsTheNamesWrongFalsely : Prop := fnModeTableValidCountsTheNamesRow.holds Try.pinned (OpenSpec.ofChange fnModeTableValidCountsTheNamesWrong)

/-- 'zzlaws_root_b1.FnSetQueueSetsIndexesAndQueuedList': WHATEVER THE INPUT: true; the input reads as it did. -/
def fnSetQueueSetsIndexesAndQueuedListSpec : ChangeSpec := { name := "fnSetQueueSetsIndexesAndQueuedList", fn := fun _ => fun
  | [d1, d2, d3, d4, d5, d6] => { results := [.lit (.bool true)], args := [d1, d2, d3, d4, d5, d6] }
  | _ => none }
def fnSetQueueSetsIndexesAndQueuedListRow : OpenClaim := { program := "qxb6612390a", sum := "d7cab7adcd2a80bdf8d553a747e9243f9b06bcfc9b98262c04eabb38dafeb19f", func := "example.com/knotcutter/knotcutter/zzlaws_root_b1.FnSetQueueSetsIndexesAndQueuedList", spec := "fnSetQueueSetsIndexesAndQueuedList", apart := false }
def FnSetQueueSetsIndexesAndQueuedListSaid : Prop := fnSetQueueSetsIndexesAndQueuedListRow.holds Try.pinned (OpenSpec.ofChange fnSetQueueSetsIndexesAndQueuedListSpec)

/-- ITS FALSE NEIGHBOUR: 'it returns false'. Refute it at one input. -/
def fnSetQueueSetsIndexesAndQueuedListWrong : ChangeSpec := { name := "fnSetQueueSetsIndexesAndQueuedList", fn := fun _ => fun
  | [d1, d2, d3, d4, d5, d6] => { results := [.lit (.bool false)], args := [d1, d2, d3, d4, d5, d6] }
  | _ => none }
def FnSetQueueSetsIndexesAndQueuedListWrongFalsely : Prop := fnSetQueueSetsIndexesAndQueuedListRow.holds Try.pinned (OpenSpec.ofChange fnSetQueueSetsIndexesAndQueuedListWrong)

/-- 'zzlaws_root_b1.FnSetQueueScriptKeepsQueuedListExact': WHATEVER THE INPUT: true; the input reads as it did. -/
def fnSetQueueScriptKeepsQueuedListExactSpec : ChangeSpec := { name := "fnSetQueueScriptKeepsQueuedListExact", fn := fun _ => fun
  | [d1, d2] => { results := [.lit (.bool true)], args := [d1, d2] }
  | _ => none }
def fnSetQueueScriptKeepsQueuedListExactRow : OpenClaim := { program := "qxb6612390a", sum := "d7cab7adcd2a80bdf8d553a747e9243f9b06bcfc9b98262c04eabb38dafeb19f", func := "example.com/knotcutter/knotcutter/zzlaws_root_b1.FnSetQueueScriptKeepsQueuedListExact", spec := "fnSetQueueScriptKeepsQueuedListExact", apart := false }
def FnSetQueueScriptKeepsQueuedListExactSaid : Prop := fnSetQueueScriptKeepsQueuedListExactRow.holds Try.pinned (OpenSpec.ofChange fnSetQueueScriptKeepsQueuedListExactSpec)

/-- ITS FALSE NEIGHBOUR: 'it returns false'. Refute it at one input. -/
def fnSetQueueScriptKeepsQueuedListExactWrong : ChangeSpec := { name := "fnSetQueueScriptKeepsQueuedListExact", fn := fun _ => fun
  | [d1, d2] => { results := [.lit (.bool false)], args := [d1, d2] }
  | _ => none }
def FnSetQueueScriptKeepsQueuedListExactWrongFalsely : Prop := fnSetQueueScriptKeepsQueuedListExactRow.holds Try.pinned (OpenSpec.ofChange fnSetQueueScriptKeepsQueuedListExactWrong)

/-- 'zzlaws_root_b1.FnKeepsTurnsTrueJustAfterTheEarliestStamp': WHATEVER THE INPUT: true; the input reads as it did. -/
def fnKeepsTurnsTrueJustAfterTheEarliestStampSpec : ChangeSpec := { name := "fnKeepsTurnsTrueJustAfterTheEarliestStamp", fn := fun _ => fun
  | [d1, d2, d3, d4, d5, d6, d7] => { results := [.lit (.bool true)], args := [d1, d2, d3, d4, d5, d6, d7] }
  | _ => none }
def fnKeepsTurnsTrueJustAfterTheEarliestStampRow : OpenClaim := { program := "qxb6612390a", sum := "d7cab7adcd2a80bdf8d553a747e9243f9b06bcfc9b98262c04eabb38dafeb19f", func := "example.com/knotcutter/knotcutter/zzlaws_root_b1.FnKeepsTurnsTrueJustAfterTheEarliestStamp", spec := "fnKeepsTurnsTrueJustAfterTheEarliestStamp", apart := false }
def FnKeepsTurnsTrueJustAfterTheEarliestStampSaid : Prop := fnKeepsTurnsTrueJustAfterTheEarliestStampRow.holds Try.pinned (OpenSpec.ofChange fnKeepsTurnsTrueJustAfterTheEarliestStampSpec)

/-- ITS FALSE NEIGHBOUR: 'it returns false'. Refute it at one input. -/
def fnKeepsTurnsTrueJustAfterTheEarliestStampWrong : ChangeSpec := { name := "fnKeepsTurnsTrueJustAfterTheEarliestStamp", fn := fun _ => fun
  | [d1, d2, d3, d4, d5, d6, d7] => { results := [.lit (.bool false)], args := [d1, d2, d3, d4, d5, d6, d7] }
  | _ => none }
def FnKeepsTurnsTrueJustAfterTheEarliestStampWrongFalsely : Prop := fnKeepsTurnsTrueJustAfterTheEarliestStampRow.holds Try.pinned (OpenSpec.ofChange fnKeepsTurnsTrueJustAfterTheEarliestStampWrong)

end Rows
end Go.Proofs.Qxb6612390a
