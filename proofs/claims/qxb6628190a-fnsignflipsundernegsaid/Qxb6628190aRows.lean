/-
  No cell of these rows narrows 'for every input' (looked for: loops, veiled, ifaces, maps, wideKeys, modest, calm, conditions, laid).
  DERIVED. THE GIVEN ROWS OF THIS SEAT. 2 by the template 'for every input the law returns true; each argument reads behind the call as it read before'; 0 by the template 'total and deterministic' (their statements: Qxb6628190aTotals.lean).
  GIVEN WITH THE SEED: the statements are not yours to turn. If you find one false, say at which input.
  Laid BY PROGRAM, IN A SANDBOX (cutbox-rows.mjs): the forced cells as the released guide's own fill.sh prints them over the translation cb5183b82cef7113… (all of the seat's roots in one cut). By AI agents, Wed Nov 11 2026. No macro, syntax, notation, axiom, sorry.
-/
import Derived.Test.Qxb6628190aChecked
import GoSem.Claim
import GoSem.ClaimJoined
import GoSem.ClaimMapViews
import Derived.JoinedTies
import Derived.KernelRfl
namespace Go.Proofs.Qxb6628190a
/- THE CELL 'sum', in the pinned program and in every row, IS THE sha256 OF THE DUMP (.gsa) THAT Qxb6628190aProg.lean LOADS. Nothing in Lean hashes anything: it is a label: what it is worth is what the hold of that sum in a sandbox is worth. -/
noncomputable def Try.pinned : Pinned := { name := "qxb6628190a", sum := "cb5183b82cef7113ce44b905983cc91e6f3d9c682b13391155785bc18651910f", checked := Try.checked }
namespace Rows
def none {H : Type} : Left H := { results := [], args := [] }

/-- 'zzlaws_pkg_number_b1.FnSignOfComposedValue': WHATEVER THE INPUT: true; the input reads as it did. -/
def fnSignOfComposedValueSpec : ChangeSpec := { name := "fnSignOfComposedValue", fn := fun _ => fun
  | [d1, d2, d3, d4] => { results := [.lit (.bool true)], args := [d1, d2, d3, d4] }
  | _ => none }
def fnSignOfComposedValueRow : OpenClaim := { program := "qxb6628190a", sum := "cb5183b82cef7113ce44b905983cc91e6f3d9c682b13391155785bc18651910f", func := "example.com/vestline/vestline/zzlaws_pkg_number_b1.FnSignOfComposedValue", spec := "fnSignOfComposedValue", apart := false }
def FnSignOfComposedValueSaid : Prop := fnSignOfComposedValueRow.holds Try.pinned (OpenSpec.ofChange fnSignOfComposedValueSpec)

/-- ITS FALSE NEIGHBOUR: 'it returns false'. Refute it at one input. -/
def fnSignOfComposedValueWrong : ChangeSpec := { name := "fnSignOfComposedValue", fn := fun _ => fun
  | [d1, d2, d3, d4] => { results := [.lit (.bool false)], args := [d1, d2, d3, d4] }
  | _ => none }
def FnSignOfComposedValueWrongFalsely : Prop := fnSignOfComposedValueRow.holds Try.pinned (OpenSpec.ofChange fnSignOfComposedValueWrong)

/-- 'zzlaws_pkg_number_b1.FnSignFlipsUnderNeg': WHATEVER THE INPUT: true; the input reads as it did. -/
def fnSignFlipsUnderNegSpec : ChangeSpec := { name := "fnSignFlipsUnderNeg", fn := fun _ => fun
  | [d1, d2, d3, d4] => { results := [.lit (.bool true)], args := [d1, d2, d3, d4] }
  | _ => none }
def fnSignFlipsUnderNegRow : OpenClaim := { program := "qxb6628190a", sum := "cb5183b82cef7113ce44b905983cc91e6f3d9c682b13391155785bc18651910f", func := "example.com/vestline/vestline/zzlaws_pkg_number_b1.FnSignFlipsUnderNeg", spec := "fnSignFlipsUnderNeg", apart := false }
def FnSignFlipsUnderNegSaid : Prop := fnSignFlipsUnderNegRow.holds Try.pinned (OpenSpec.ofChange fnSignFlipsUnderNegSpec)

/-- ITS FALSE NEIGHBOUR: 'it returns false'. Refute it at one input. -/
def fnSignFlipsUnderNegWrong : ChangeSpec := { name := "fnSignFlipsUnderNeg", fn := fun _ => fun
  | [d1, d2, d3, d4] => { results := [.lit (.bool false)], args := [d1, d2, d3, d4] }
  | _ => none }
def FnSignFlipsUnderNegWrongFalsely : Prop := fnSignFlipsUnderNegRow.holds Try.pinned (OpenSpec.ofChange fnSignFlipsUnderNegWrong)

end Rows
end Go.Proofs.Qxb6628190a
