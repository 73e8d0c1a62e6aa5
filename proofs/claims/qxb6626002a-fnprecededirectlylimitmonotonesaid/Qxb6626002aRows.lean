/-
  No cell of these rows narrows 'for every input' (looked for: loops, veiled, ifaces, maps, wideKeys, modest, calm, conditions, laid).
  DERIVED. THE GIVEN ROWS OF THIS SEAT. 2 by the template 'for every input the law returns true; each argument reads behind the call as it read before'; 0 by the template 'total and deterministic' (their statements: Qxb6626002aTotals.lean).
  GIVEN WITH THE SEED: the statements are not yours to turn. If you find one false, say at which input.
  Laid BY PROGRAM, IN A SANDBOX (cutbox-rows.mjs): the forced cells as the released guide's own fill.sh prints them over the translation 124066a1324e580d… (all of the seat's roots in one cut). By AI agents, Wed Nov 11 2026. No macro, syntax, notation, axiom, sorry.
-/
import Derived.Test.Qxb6626002aChecked
import GoSem.Claim
import GoSem.ClaimJoined
import GoSem.ClaimMapViews
import Derived.JoinedTies
import Derived.KernelRfl
namespace Go.Proofs.Qxb6626002a
/- THE CELL 'sum', in the pinned program and in every row, IS THE sha256 OF THE DUMP (.gsa) THAT Qxb6626002aProg.lean LOADS. Nothing in Lean hashes anything: it is a label: what it is worth is what the hold of that sum in a sandbox is worth. -/
noncomputable def Try.pinned : Pinned := { name := "qxb6626002a", sum := "124066a1324e580de09149006cdf69e6e37c1104da63651bb7cd4202c5974406", checked := Try.checked }
namespace Rows
def none {H : Type} : Left H := { results := [], args := [] }

/-- 'zzlaws_internal_history_b1.FnPrecedeDirectlyMatchesModel': WHATEVER THE INPUT: true; the input reads as it did. -/
def fnPrecedeDirectlyMatchesModelSpec : ChangeSpec := { name := "fnPrecedeDirectlyMatchesModel", fn := fun _ => fun
  | [d1, d2, d3, d4, d5, d6, d7, d8, d9, d10] => { results := [.lit (.bool true)], args := [d1, d2, d3, d4, d5, d6, d7, d8, d9, d10] }
  | _ => none }
def fnPrecedeDirectlyMatchesModelRow : OpenClaim := { program := "qxb6626002a", sum := "124066a1324e580de09149006cdf69e6e37c1104da63651bb7cd4202c5974406", func := "example.com/punctual/punctual/zzlaws_internal_history_b1.FnPrecedeDirectlyMatchesModel", spec := "fnPrecedeDirectlyMatchesModel", unfollowed := true, recurses := true, apart := false }
def FnPrecedeDirectlyMatchesModelSaid : Prop := fnPrecedeDirectlyMatchesModelRow.holds Try.pinned (OpenSpec.ofChange fnPrecedeDirectlyMatchesModelSpec)

/-- ITS FALSE NEIGHBOUR: 'it returns false'. Refute it at one input. -/
def fnPrecedeDirectlyMatchesModelWrong : ChangeSpec := { name := "fnPrecedeDirectlyMatchesModel", fn := fun _ => fun
  | [d1, d2, d3, d4, d5, d6, d7, d8, d9, d10] => { results := [.lit (.bool false)], args := [d1, d2, d3, d4, d5, d6, d7, d8, d9, d10] }
  | _ => none }
def FnPrecedeDirectlyMatchesModelWrongFalsely : Prop := fnPrecedeDirectlyMatchesModelRow.holds Try.pinned (OpenSpec.ofChange fnPrecedeDirectlyMatchesModelWrong)

/-- 'zzlaws_internal_history_b1.FnPrecedeDirectlyLimitMonotone': WHATEVER THE INPUT: true; the input reads as it did. -/
def fnPrecedeDirectlyLimitMonotoneSpec : ChangeSpec := { name := "fnPrecedeDirectlyLimitMonotone", fn := fun _ => fun
  | [d1, d2, d3, d4, d5, d6, d7, d8, d9, d10, d11] => { results := [.lit (.bool true)], args := [d1, d2, d3, d4, d5, d6, d7, d8, d9, d10, d11] }
  | _ => none }
def fnPrecedeDirectlyLimitMonotoneRow : OpenClaim := { program := "qxb6626002a", sum := "124066a1324e580de09149006cdf69e6e37c1104da63651bb7cd4202c5974406", func := "example.com/punctual/punctual/zzlaws_internal_history_b1.FnPrecedeDirectlyLimitMonotone", spec := "fnPrecedeDirectlyLimitMonotone", unfollowed := true, recurses := true, apart := false }
def FnPrecedeDirectlyLimitMonotoneSaid : Prop := fnPrecedeDirectlyLimitMonotoneRow.holds Try.pinned (OpenSpec.ofChange fnPrecedeDirectlyLimitMonotoneSpec)

/-- ITS FALSE NEIGHBOUR: 'it returns false'. Refute it at one input. -/
def fnPrecedeDirectlyLimitMonotoneWrong : ChangeSpec := { name := "fnPrecedeDirectlyLimitMonotone", fn := fun _ => fun
  | [d1, d2, d3, d4, d5, d6, d7, d8, d9, d10, d11] => { results := [.lit (.bool false)], args := [d1, d2, d3, d4, d5, d6, d7, d8, d9, d10, d11] }
  | _ => none }
def FnPrecedeDirectlyLimitMonotoneWrongFalsely : Prop := fnPrecedeDirectlyLimitMonotoneRow.holds Try.pinned (OpenSpec.ofChange fnPrecedeDirectlyLimitMonotoneWrong)

end Rows
end Go.Proofs.Qxb6626002a
