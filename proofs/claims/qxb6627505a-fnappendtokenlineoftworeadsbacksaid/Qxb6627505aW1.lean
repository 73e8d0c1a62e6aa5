import Derived.Test.Qxb6627505aRows
import Derived.WalkKit
import Derived.WalkSpells
namespace Go.Proofs.Qxb6627505a
open Go.RowKit
set_option linter.unusedVariables false

/-- May the byte stand bare? -/
def bare (c : Int) : Bool := decide (33 ≤ c ∧ c ≤ 126 ∧ c ≠ 34 ∧ c ≠ 92)
def printable (c : Int) : Bool := decide (32 ≤ c ∧ c ≤ 126)
/-- A lower-case hex digit's value. -/
def hexv (c : Int) : Option Int := if 48 ≤ c ∧ c ≤ 57 then some (c - 48) else if 97 ≤ c ∧ c ≤ 102 then some (c - 87) else none

theorem isBare_any (c : Int) (w : World) (h0 : 0 ≤ c) (h1 : c ≤ 255) :
    Calls Try.prog 17 #[.int .u8 c] w fun e w' => e = .returned (.bool (bare c)) ∧ w' = w := by
  go_enter Try.func17, Try.ntmps17
  go_wp2
  all_goals (go_ret; refine ⟨?_, rfl⟩; simp [bare]; try omega)
  all_goals (rw [Bool.eq_iff_iff]; simp; omega)
theorem bareByte_any (c : Int) (w : World) (h0 : 0 ≤ c) (h1 : c ≤ 255) :
    Calls Try.prog 14 #[.int .u8 c] w fun e w' => e = .returned (.bool (bare c)) ∧ w' = w := by
  go_enter Try.func14, Try.ntmps14
  go_wp2
  all_goals (go_ret; refine ⟨?_, rfl⟩; simp [bare]; try omega)
  all_goals (rw [Bool.eq_iff_iff]; simp; omega)
theorem isPrintable_any (c : Int) (w : World) (h0 : 0 ≤ c) (h1 : c ≤ 255) :
    Calls Try.prog 12 #[.int .u8 c] w fun e w' => e = .returned (.bool (printable c)) ∧ w' = w := by
  go_enter Try.func12, Try.ntmps12
  go_wp2
  all_goals (go_ret; refine ⟨?_, rfl⟩; simp [printable]; try omega)
  all_goals simp_all
theorem hexDigit_any (c : Int) (w : World) (h0 : 0 ≤ c) (h1 : c ≤ 255) :
    Calls Try.prog 15 #[.int .u8 c] w fun e w' => e = .returned (.tuple #[.int .u8 ((hexv c).getD 0), .bool (hexv c).isSome]) ∧ w' = w := by
  go_enter Try.func15, Try.ntmps15
  go_wp2
  all_goals (go_ret2; refine ⟨?_, rfl⟩; unfold hexv)
  all_goals (repeat' split)
  all_goals first | omega | (simp; done) | (simp; omega)
theorem encLen_any (c : Int) (w : World) (h0 : 0 ≤ c) (h1 : c ≤ 255) :
    Calls Try.prog 18 #[.int .i64 c] w fun e w' => e = .returned (.int .i64 (c * 2)) ∧ w' = w := by
  go_enter Try.func18, Try.ntmps18
  go_wp2
  go_ret
  exact ⟨rfl, rfl⟩
end Go.Proofs.Qxb6627505a
