/-
  No cell of these rows narrows 'for every input' (looked for: loops, veiled, ifaces, maps, wideKeys, modest, calm, conditions, laid).
  DERIVED. THE GIVEN ROWS OF THIS SEAT. 2 by the template 'for every input the law returns true; each argument reads behind the call as it read before'; 0 by the template 'total and deterministic' (their statements: Qxb6627505aTotals.lean).
  GIVEN WITH THE SEED: the statements are not yours to turn. If you find one false, say at which input.
  Laid BY PROGRAM, IN A SANDBOX (cutbox-rows.mjs): the forced cells as the released guide's own fill.sh prints them over the translation 3d3966936b4cc02c… (all of the seat's roots in one cut). By AI agents, Wed Nov 11 2026. No macro, syntax, notation, axiom, sorry.
-/
import Derived.Test.Qxb6627505aChecked
import GoSem.Claim
import GoSem.ClaimJoined
import GoSem.ClaimMapViews
import Derived.JoinedTies
import Derived.KernelRfl
namespace Go.Proofs.Qxb6627505a
/- THE CELL 'sum', in the pinned program and in every row, IS THE sha256 OF THE DUMP (.gsa) THAT Qxb6627505aProg.lean LOADS. Nothing in Lean hashes anything: it is a label: what it is worth is what the hold of that sum in a sandbox is worth. -/
noncomputable def Try.pinned : Pinned := { name := "qxb6627505a", sum := "3d3966936b4cc02cc48c2ef0495194dade47e1c5cb91d9f5f46892a2310d68d8", checked := Try.checked }
namespace Rows
def none {H : Type} : Left H := { results := [], args := [] }

/-- 'zzlaws_internal_protocol_b1.FnAppendTokenWritesTheOneCanonicalForm': WHATEVER THE INPUT: true; the input reads as it did. -/
def fnAppendTokenWritesTheOneCanonicalFormSpec : ChangeSpec := { name := "fnAppendTokenWritesTheOneCanonicalForm", fn := fun _ => fun
  | [d1, d2] => { results := [.lit (.bool true)], args := [d1, d2] }
  | _ => none }
def fnAppendTokenWritesTheOneCanonicalFormRow : OpenClaim := { program := "qxb6627505a", sum := "3d3966936b4cc02cc48c2ef0495194dade47e1c5cb91d9f5f46892a2310d68d8", func := "example.com/ratify/ratify/zzlaws_internal_protocol_b1.FnAppendTokenWritesTheOneCanonicalForm", spec := "fnAppendTokenWritesTheOneCanonicalForm", apart := false }
def FnAppendTokenWritesTheOneCanonicalFormSaid : Prop := fnAppendTokenWritesTheOneCanonicalFormRow.holds Try.pinned (OpenSpec.ofChange fnAppendTokenWritesTheOneCanonicalFormSpec)

/-- ITS FALSE NEIGHBOUR: 'it returns false'. Refute it at one input. -/
def fnAppendTokenWritesTheOneCanonicalFormWrong : ChangeSpec := { name := "fnAppendTokenWritesTheOneCanonicalForm", fn := fun _ => fun
  | [d1, d2] => { results := [.lit (.bool false)], args := [d1, d2] }
  | _ => none }
def FnAppendTokenWritesTheOneCanonicalFormWrongFalsely : Prop := fnAppendTokenWritesTheOneCanonicalFormRow.holds Try.pinned (OpenSpec.ofChange fnAppendTokenWritesTheOneCanonicalFormWrong)

/-- 'zzlaws_internal_protocol_b1.FnAppendTokenLineOfTwoReadsBack': WHATEVER THE INPUT: true; the input reads as it did. -/
def fnAppendTokenLineOfTwoReadsBackSpec : ChangeSpec := { name := "fnAppendTokenLineOfTwoReadsBack", fn := fun _ => fun
  | [d1, d2, d3] => { results := [.lit (.bool true)], args := [d1, d2, d3] }
  | _ => none }
def fnAppendTokenLineOfTwoReadsBackRow : OpenClaim := { program := "qxb6627505a", sum := "3d3966936b4cc02cc48c2ef0495194dade47e1c5cb91d9f5f46892a2310d68d8", func := "example.com/ratify/ratify/zzlaws_internal_protocol_b1.FnAppendTokenLineOfTwoReadsBack", spec := "fnAppendTokenLineOfTwoReadsBack", apart := false }
def FnAppendTokenLineOfTwoReadsBackSaid : Prop := fnAppendTokenLineOfTwoReadsBackRow.holds Try.pinned (OpenSpec.ofChange fnAppendTokenLineOfTwoReadsBackSpec)

/-- ITS FALSE NEIGHBOUR: 'it returns false'. Refute it at one input. -/
def fnAppendTokenLineOfTwoReadsBackWrong : ChangeSpec := { name := "fnAppendTokenLineOfTwoReadsBack", fn := fun _ => fun
  | [d1, d2, d3] => { results := [.lit (.bool false)], args := [d1, d2, d3] }
  | _ => none }
def FnAppendTokenLineOfTwoReadsBackWrongFalsely : Prop := fnAppendTokenLineOfTwoReadsBackRow.holds Try.pinned (OpenSpec.ofChange fnAppendTokenLineOfTwoReadsBackWrong)

end Rows
end Go.Proofs.Qxb6627505a
