/-
  No cell of these rows narrows 'for every input' (looked for: loops, veiled, ifaces, maps, wideKeys, modest, calm, conditions, laid).
  DERIVED. THE GIVEN ROWS OF THIS SEAT. 2 by the template 'for every input the law returns true; each argument reads behind the call as it read before'; 0 by the template 'total and deterministic' (their statements: Qxb6612331aTotals.lean).
  GIVEN WITH THE SEED: the statements are not yours to turn. If you find one false, say at which input.
  Laid BY PROGRAM, IN A SANDBOX (cutbox-rows.mjs): the forced cells as the released guide's own fill.sh prints them over the translation d37a4767e3c7d5dc… (all of the seat's roots in one cut). By AI agents, Wed Nov 11 2026. No macro, syntax, notation, axiom, sorry.
-/
import Derived.Test.Qxb6612331aChecked
import GoSem.Claim
import GoSem.ClaimJoined
import GoSem.ClaimMapViews
import Derived.JoinedTies
import Derived.KernelRfl
namespace Go.Proofs.Qxb6612331a
/- THE CELL 'sum', in the pinned program and in every row, IS THE sha256 OF THE DUMP (.gsa) THAT Qxb6612331aProg.lean LOADS. Nothing in Lean hashes anything: it is a label: what it is worth is what the hold of that sum in a sandbox is worth. -/
noncomputable def Try.pinned : Pinned := { name := "qxb6612331a", sum := "d37a4767e3c7d5dc432283a69f80741dab49524312d51dc85a5823025c7b9ac4", checked := Try.checked }
namespace Rows
def none {H : Type} : Left H := { results := [], args := [] }

/-- 'zzlaws_root_b1.FnIsFieldValueIsNoControlByteButTab': WHATEVER THE INPUT: true; the input reads as it did. -/
def fnIsFieldValueIsNoControlByteButTabSpec : ChangeSpec := { name := "fnIsFieldValueIsNoControlByteButTab", fn := fun _ => fun
  | [d] => { results := [.lit (.bool true)], args := [d] }
  | _ => none }
def fnIsFieldValueIsNoControlByteButTabRow : OpenClaim := { program := "qxb6612331a", sum := "d37a4767e3c7d5dc432283a69f80741dab49524312d51dc85a5823025c7b9ac4", func := "example.com/nonce/nonce/zzlaws_root_b1.FnIsFieldValueIsNoControlByteButTab", spec := "fnIsFieldValueIsNoControlByteButTab", unfollowed := true, recurses := true, apart := false }
def FnIsFieldValueIsNoControlByteButTabSaid : Prop := fnIsFieldValueIsNoControlByteButTabRow.holds Try.pinned (OpenSpec.ofChange fnIsFieldValueIsNoControlByteButTabSpec)

/-- ITS FALSE NEIGHBOUR: 'it returns false'. Refute it at one input. -/
def fnIsFieldValueIsNoControlByteButTabWrong : ChangeSpec := { name := "fnIsFieldValueIsNoControlByteButTab", fn := fun _ => fun
  | [d] => { results := [.lit (.bool false)], args := [d] }
  | _ => none }
def FnIsFieldValueIsNoControlByteButTabWrongFalsely : Prop := fnIsFieldValueIsNoControlByteButTabRow.holds Try.pinned (OpenSpec.ofChange fnIsFieldValueIsNoControlByteButTabWrong)

/-- 'zzlaws_root_b1.FnIsFieldValueSplicesByteByByte': WHATEVER THE INPUT: true; the input reads as it did. -/
def fnIsFieldValueSplicesByteByByteSpec : ChangeSpec := { name := "fnIsFieldValueSplicesByteByByte", fn := fun _ => fun
  | [d1, d2, d3] => { results := [.lit (.bool true)], args := [d1, d2, d3] }
  | _ => none }
def fnIsFieldValueSplicesByteByByteRow : OpenClaim := { program := "qxb6612331a", sum := "d37a4767e3c7d5dc432283a69f80741dab49524312d51dc85a5823025c7b9ac4", func := "example.com/nonce/nonce/zzlaws_root_b1.FnIsFieldValueSplicesByteByByte", spec := "fnIsFieldValueSplicesByteByByte", unfollowed := true, recurses := true, apart := false }
def FnIsFieldValueSplicesByteByByteSaid : Prop := fnIsFieldValueSplicesByteByByteRow.holds Try.pinned (OpenSpec.ofChange fnIsFieldValueSplicesByteByByteSpec)

/-- ITS FALSE NEIGHBOUR: 'it returns false'. Refute it at one input. -/
def fnIsFieldValueSplicesByteByByteWrong : ChangeSpec := { name := "fnIsFieldValueSplicesByteByByte", fn := fun _ => fun
  | [d1, d2, d3] => { results := [.lit (.bool false)], args := [d1, d2, d3] }
  | _ => none }
def FnIsFieldValueSplicesByteByByteWrongFalsely : Prop := fnIsFieldValueSplicesByteByByteRow.holds Try.pinned (OpenSpec.ofChange fnIsFieldValueSplicesByteByByteWrong)

end Rows
end Go.Proofs.Qxb6612331a
