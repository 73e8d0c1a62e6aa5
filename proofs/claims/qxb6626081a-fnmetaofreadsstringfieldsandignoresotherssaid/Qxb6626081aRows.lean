/-
  No cell of these rows narrows 'for every input' (looked for: loops, veiled, ifaces, maps, wideKeys, modest, calm, conditions, laid).
  DERIVED. THE GIVEN ROWS OF THIS SEAT. 2 by the template 'for every input the law returns true; each argument reads behind the call as it read before'; 0 by the template 'total and deterministic' (their statements: Qxb6626081aTotals.lean).
  GIVEN WITH THE SEED: the statements are not yours to turn. If you find one false, say at which input.
  Laid BY PROGRAM, IN A SANDBOX (cutbox-rows.mjs): the forced cells as the released guide's own fill.sh prints them over the translation e202ba7d45f5bb35… (all of the seat's roots in one cut). By AI agents, Wed Nov 11 2026. No macro, syntax, notation, axiom, sorry.
-/
import Derived.Test.Qxb6626081aChecked
import GoSem.Claim
import GoSem.ClaimJoined
import GoSem.ClaimMapViews
import Derived.JoinedTies
import Derived.KernelRfl
namespace Go.Proofs.Qxb6626081a
/- THE CELL 'sum', in the pinned program and in every row, IS THE sha256 OF THE DUMP (.gsa) THAT Qxb6626081aProg.lean LOADS. Nothing in Lean hashes anything: it is a label: what it is worth is what the hold of that sum in a sandbox is worth. -/
noncomputable def Try.pinned : Pinned := { name := "qxb6626081a", sum := "e202ba7d45f5bb35be551266b3cb7737bb525210072c95f876fbd78832dbb424", checked := Try.checked }
namespace Rows
def none {H : Type} : Left H := { results := [], args := [] }

/-- 'zzlaws_manifest_b1.FnMetaOfReadsStringFieldsAndIgnoresOthers': WHATEVER THE INPUT: true; the input reads as it did. -/
def fnMetaOfReadsStringFieldsAndIgnoresOthersSpec : ChangeSpec := { name := "fnMetaOfReadsStringFieldsAndIgnoresOthers", fn := fun _ => fun
  | [d1, d2, d3, d4, d5, d6, d7, d8] => { results := [.lit (.bool true)], args := [d1, d2, d3, d4, d5, d6, d7, d8] }
  | _ => none }
def fnMetaOfReadsStringFieldsAndIgnoresOthersRow : OpenClaim := { program := "qxb6626081a", sum := "e202ba7d45f5bb35be551266b3cb7737bb525210072c95f876fbd78832dbb424", func := "example.com/keelson/keelson/zzlaws_manifest_b1.FnMetaOfReadsStringFieldsAndIgnoresOthers", spec := "fnMetaOfReadsStringFieldsAndIgnoresOthers", apart := false }
def FnMetaOfReadsStringFieldsAndIgnoresOthersSaid : Prop := fnMetaOfReadsStringFieldsAndIgnoresOthersRow.holds Try.pinned (OpenSpec.ofChange fnMetaOfReadsStringFieldsAndIgnoresOthersSpec)

/-- ITS FALSE NEIGHBOUR: 'it returns false'. Refute it at one input. -/
def fnMetaOfReadsStringFieldsAndIgnoresOthersWrong : ChangeSpec := { name := "fnMetaOfReadsStringFieldsAndIgnoresOthers", fn := fun _ => fun
  | [d1, d2, d3, d4, d5, d6, d7, d8] => { results := [.lit (.bool false)], args := [d1, d2, d3, d4, d5, d6, d7, d8] }
  | _ => none }
def FnMetaOfReadsStringFieldsAndIgnoresOthersWrongFalsely : Prop := fnMetaOfReadsStringFieldsAndIgnoresOthersRow.holds Try.pinned (OpenSpec.ofChange fnMetaOfReadsStringFieldsAndIgnoresOthersWrong)

/-- 'zzlaws_manifest_b1.FnMetaOfLeavesNonStringFieldsEmpty': WHATEVER THE INPUT: true; the input reads as it did. -/
def fnMetaOfLeavesNonStringFieldsEmptySpec : ChangeSpec := { name := "fnMetaOfLeavesNonStringFieldsEmpty", fn := fun _ => fun
  | [d1, d2, d3, d4] => { results := [.lit (.bool true)], args := [d1, d2, d3, d4] }
  | _ => none }
def fnMetaOfLeavesNonStringFieldsEmptyRow : OpenClaim := { program := "qxb6626081a", sum := "e202ba7d45f5bb35be551266b3cb7737bb525210072c95f876fbd78832dbb424", func := "example.com/keelson/keelson/zzlaws_manifest_b1.FnMetaOfLeavesNonStringFieldsEmpty", spec := "fnMetaOfLeavesNonStringFieldsEmpty", apart := false }
def FnMetaOfLeavesNonStringFieldsEmptySaid : Prop := fnMetaOfLeavesNonStringFieldsEmptyRow.holds Try.pinned (OpenSpec.ofChange fnMetaOfLeavesNonStringFieldsEmptySpec)

/-- ITS FALSE NEIGHBOUR: 'it returns false'. Refute it at one input. -/
def fnMetaOfLeavesNonStringFieldsEmptyWrong : ChangeSpec := { name := "fnMetaOfLeavesNonStringFieldsEmpty", fn := fun _ => fun
  | [d1, d2, d3, d4] => { results := [.lit (.bool false)], args := [d1, d2, d3, d4] }
  | _ => none }
def FnMetaOfLeavesNonStringFieldsEmptyWrongFalsely : Prop := fnMetaOfLeavesNonStringFieldsEmptyRow.holds Try.pinned (OpenSpec.ofChange fnMetaOfLeavesNonStringFieldsEmptyWrong)

end Rows
end Go.Proofs.Qxb6626081a
