import Derived.Test.Qxb6626081aW4
import Derived.Test.Qxb6626081aW5
namespace Go.Proofs.Qxb6626081a
open Go.RowKit
set_option linter.unusedVariables false
theorem bytes4_any (a0 a1 a2 a3 : ByteArray) (w : World) (h0 : a0.size ≤ maxLen) (h1 : a1.size ≤ maxLen) (h2 : a2.size ≤ maxLen) (h3 : a3.size ≤ maxLen) :
    Calls Try.prog 8 #[.string a0, .string a1, .string a2, .string a3] w fun e w' => (∃ c, e = .returned (.bool c)) ∧ w' = w := by
  go_enter Try.func8, Try.ntmps8
  go_wp2
  all_goals (go_ret; exact ⟨⟨_, rfl⟩, rfl⟩)
theorem bytes8_any (a0 a1 a2 a3 a4 a5 a6 a7 : ByteArray) (w : World) (h0 : a0.size ≤ maxLen) (h1 : a1.size ≤ maxLen) (h2 : a2.size ≤ maxLen) (h3 : a3.size ≤ maxLen) (h4 : a4.size ≤ maxLen) (h5 : a5.size ≤ maxLen) (h6 : a6.size ≤ maxLen) (h7 : a7.size ≤ maxLen) :
    Calls Try.prog 5 #[.string a0, .string a1, .string a2, .string a3, .string a4, .string a5, .string a6, .string a7] w fun e w' => (∃ c, e = .returned (.bool c)) ∧ w' = w := by
  go_enter Try.func5, Try.ntmps5
  go_wp2
  all_goals (go_ret; exact ⟨⟨_, rfl⟩, rfl⟩)
end Go.Proofs.Qxb6626081a
