/-
  No cell of these rows narrows 'for every input' (looked for: loops, veiled, ifaces, maps, wideKeys, modest, calm, conditions, laid).
  DERIVED. THE GIVEN ROWS OF THIS SEAT. 3 by the template 'for every input the law returns true; each argument reads behind the call as it read before'; 0 by the template 'total and deterministic' (their statements: Qxb6612353aTotals.lean).
  GIVEN WITH THE SEED: the statements are not yours to turn. If you find one false, say at which input.
  Laid BY PROGRAM, IN A SANDBOX (cutbox-rows.mjs): the forced cells as the released guide's own fill.sh prints them over the translation 5659c87e31c1fbc3… (all of the seat's roots in one cut). By AI agents, Wed Nov 11 2026. No macro, syntax, notation, axiom, sorry.
-/
import Derived.Test.Qxb6612353aChecked
import GoSem.Claim
import GoSem.ClaimJoined
import GoSem.ClaimMapViews
import Derived.JoinedTies
import Derived.KernelRfl
namespace Go.Proofs.Qxb6612353a
/- THE CELL 'sum', in the pinned program and in every row, IS THE sha256 OF THE DUMP (.gsa) THAT Qxb6612353aProg.lean LOADS. Nothing in Lean hashes anything: it is a label: what it is worth is what the hold of that sum in a sandbox is worth. -/
noncomputable def Try.pinned : Pinned := { name := "qxb6612353a", sum := "5659c87e31c1fbc3df4eac7a200ddec5d38e3f07d799ca98500c289447bde26a", checked := Try.checked }
namespace Rows
def none {H : Type} : Left H := { results := [], args := [] }

/-- 'zzlaws_pkg_traffic_b1.FnTakeKeepsWindowOfLatest': WHATEVER THE INPUT: true; the input reads as it did. -/
def fnTakeKeepsWindowOfLatestSpec : ChangeSpec := { name := "fnTakeKeepsWindowOfLatest", fn := fun _ => fun
  | [d1, d2, d3, d4, d5, d6, d7, d8, d9] => { results := [.lit (.bool true)], args := [d1, d2, d3, d4, d5, d6, d7, d8, d9] }
  | _ => none }
def fnTakeKeepsWindowOfLatestRow : OpenClaim := { program := "qxb6612353a", sum := "5659c87e31c1fbc3df4eac7a200ddec5d38e3f07d799ca98500c289447bde26a", func := "example.com/laned/laned/zzlaws_pkg_traffic_b1.FnTakeKeepsWindowOfLatest", spec := "fnTakeKeepsWindowOfLatest", inPlace := ["slices.overlaps[time.Duration]"], apart := false }
def FnTakeKeepsWindowOfLatestSaid : Prop := fnTakeKeepsWindowOfLatestRow.holds Try.pinned (OpenSpec.ofChange fnTakeKeepsWindowOfLatestSpec)

/-- ITS FALSE NEIGHBOUR: 'it returns false'. Refute it at one input. -/
def fnTakeKeepsWindowOfLatestWrong : ChangeSpec := { name := "fnTakeKeepsWindowOfLatest", fn := fun _ => fun
  | [d1, d2, d3, d4, d5, d6, d7, d8, d9] => { results := [.lit (.bool false)], args := [d1, d2, d3, d4, d5, d6, d7, d8, d9] }
  | _ => none }
def FnTakeKeepsWindowOfLatestWrongFalsely : Prop := fnTakeKeepsWindowOfLatestRow.holds Try.pinned (OpenSpec.ofChange fnTakeKeepsWindowOfLatestWrong)

/-- 'zzlaws_pkg_traffic_b1.FnTakeScriptHoldsLatestThousand': WHATEVER THE INPUT: true; the input reads as it did. -/
def fnTakeScriptHoldsLatestThousandSpec : ChangeSpec := { name := "fnTakeScriptHoldsLatestThousand", fn := fun _ => fun
  | [d] => { results := [.lit (.bool true)], args := [d] }
  | _ => none }
def fnTakeScriptHoldsLatestThousandRow : OpenClaim := { program := "qxb6612353a", sum := "5659c87e31c1fbc3df4eac7a200ddec5d38e3f07d799ca98500c289447bde26a", func := "example.com/laned/laned/zzlaws_pkg_traffic_b1.FnTakeScriptHoldsLatestThousand", spec := "fnTakeScriptHoldsLatestThousand", inPlace := ["slices.overlaps[time.Duration]"], apart := false }
def FnTakeScriptHoldsLatestThousandSaid : Prop := fnTakeScriptHoldsLatestThousandRow.holds Try.pinned (OpenSpec.ofChange fnTakeScriptHoldsLatestThousandSpec)

/-- ITS FALSE NEIGHBOUR: 'it returns false'. Refute it at one input. -/
def fnTakeScriptHoldsLatestThousandWrong : ChangeSpec := { name := "fnTakeScriptHoldsLatestThousand", fn := fun _ => fun
  | [d] => { results := [.lit (.bool false)], args := [d] }
  | _ => none }
def FnTakeScriptHoldsLatestThousandWrongFalsely : Prop := fnTakeScriptHoldsLatestThousandRow.holds Try.pinned (OpenSpec.ofChange fnTakeScriptHoldsLatestThousandWrong)

/-- 'zzlaws_pkg_traffic_b1.FnAdmitCompletesFigures': WHATEVER THE INPUT: true; the input reads as it did. -/
def fnAdmitCompletesFiguresSpec : ChangeSpec := { name := "fnAdmitCompletesFigures", fn := fun _ => fun
  | [d1, d2, d3, d4, d5, d6, d7, d8, d9] => { results := [.lit (.bool true)], args := [d1, d2, d3, d4, d5, d6, d7, d8, d9] }
  | _ => none }
def fnAdmitCompletesFiguresRow : OpenClaim := { program := "qxb6612353a", sum := "5659c87e31c1fbc3df4eac7a200ddec5d38e3f07d799ca98500c289447bde26a", func := "example.com/laned/laned/zzlaws_pkg_traffic_b1.FnAdmitCompletesFigures", spec := "fnAdmitCompletesFigures", inPlace := ["slices.overlaps[time.Duration]"], apart := false }
def FnAdmitCompletesFiguresSaid : Prop := fnAdmitCompletesFiguresRow.holds Try.pinned (OpenSpec.ofChange fnAdmitCompletesFiguresSpec)

/-- ITS FALSE NEIGHBOUR: 'it returns false'. Refute it at one input. -/
def fnAdmitCompletesFiguresWrong : ChangeSpec := { name := "fnAdmitCompletesFigures", fn := fun _ => fun
  | [d1, d2, d3, d4, d5, d6, d7, d8, d9] => { results := [.lit (.bool false)], args := [d1, d2, d3, d4, d5, d6, d7, d8, d9] }
  | _ => none }
def FnAdmitCompletesFiguresWrongFalsely : Prop := fnAdmitCompletesFiguresRow.holds Try.pinned (OpenSpec.ofChange fnAdmitCompletesFiguresWrong)

end Rows
end Go.Proofs.Qxb6612353a
