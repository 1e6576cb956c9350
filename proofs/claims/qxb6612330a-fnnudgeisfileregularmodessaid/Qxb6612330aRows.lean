/-
  No cell of these rows narrows 'for every input' (looked for: loops, veiled, ifaces, maps, wideKeys, modest, calm, conditions, laid).
  DERIVED. THE GIVEN ROWS OF THIS SEAT. 1 by the template 'for every input the law returns true; each argument reads behind the call as it read before'; 0 by the template 'total and deterministic' (their statements: Qxb6612330aTotals.lean).
  GIVEN WITH THE SEED: the statements are not yours to turn. If you find one false, say at which input.
  Laid BY PROGRAM, IN A SANDBOX (cutbox-rows.mjs): the forced cells as the released guide's own fill.sh prints them over the translation 26f3f625b244b797… (all of the seat's roots in one cut). By AI agents, Wed Nov 11 2026. No macro, syntax, notation, axiom, sorry.
-/
import Derived.Test.Qxb6612330aChecked
import GoSem.Claim
import GoSem.ClaimJoined
import GoSem.ClaimMapViews
import Derived.JoinedTies
import Derived.KernelRfl
namespace Go.Proofs.Qxb6612330a
/- THE CELL 'sum', in the pinned program and in every row, IS THE sha256 OF THE DUMP (.gsa) THAT Qxb6612330aProg.lean LOADS. Nothing in Lean hashes anything: it is a label: what it is worth is what the hold of that sum in a sandbox is worth. -/
noncomputable def Try.pinned : Pinned := { name := "qxb6612330a", sum := "26f3f625b244b7978b659bcfa7e9cfa6a597924f0bf3f8384d420e493d4ade47", checked := Try.checked }
namespace Rows
def none {H : Type} : Left H := { results := [], args := [] }

/-- 'zzlaws_pkg_nudge_b1.FnNudgeIsFileRegularModes': WHATEVER THE INPUT: true; the input reads as it did. -/
def fnNudgeIsFileRegularModesSpec : ChangeSpec := { name := "fnNudgeIsFileRegularModes", fn := fun _ => fun
  | [d1, d2, d3, d4] => { results := [.lit (.bool true)], args := [d1, d2, d3, d4] }
  | _ => none }
def fnNudgeIsFileRegularModesRow : OpenClaim := { program := "qxb6612330a", sum := "26f3f625b244b7978b659bcfa7e9cfa6a597924f0bf3f8384d420e493d4ade47", func := "example.com/ripplewake/ripplewake/zzlaws_pkg_nudge_b1.FnNudgeIsFileRegularModes", spec := "fnNudgeIsFileRegularModes", apart := false }
def FnNudgeIsFileRegularModesSaid : Prop := fnNudgeIsFileRegularModesRow.holds Try.pinned (OpenSpec.ofChange fnNudgeIsFileRegularModesSpec)

/-- ITS FALSE NEIGHBOUR: 'it returns false'. Refute it at one input. -/
def fnNudgeIsFileRegularModesWrong : ChangeSpec := { name := "fnNudgeIsFileRegularModes", fn := fun _ => fun
  | [d1, d2, d3, d4] => { results := [.lit (.bool false)], args := [d1, d2, d3, d4] }
  | _ => none }
def FnNudgeIsFileRegularModesWrongFalsely : Prop := fnNudgeIsFileRegularModesRow.holds Try.pinned (OpenSpec.ofChange fnNudgeIsFileRegularModesWrong)

end Rows
end Go.Proofs.Qxb6612330a
