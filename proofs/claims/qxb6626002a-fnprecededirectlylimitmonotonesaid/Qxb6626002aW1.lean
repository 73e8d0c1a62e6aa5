import Derived.Test.Qxb6626002aRows
import Derived.Test.Qxb6626002aPlain
import Derived.WalkKit
import Derived.WalkSpells
import Derived.WalkLawsBesides
namespace Go.Proofs.Qxb6626002a
open Go.RowKit
set_option linter.unusedVariables false

theorem ret_bool {a b : Bool} (h : a = b) : Ending.returned (.bool a) = .returned (.bool b) := by rw [h]

theorem below1 (w : World) (o : Obj) : Below w.heap.size w (w.alloc o) := (Below.refl _ _).alloc (Nat.le_refl _) _
theorem below2 (w : World) (o1 o2 : Obj) : Below w.heap.size w ((w.alloc o1).alloc o2) := (below1 w o1).alloc (by simp) _
theorem below_then {w a b : World} (h : Below w.heap.size w a) (k : Below a.heap.size a b) : Below w.heap.size w b := h.trans (k.mono h.size)

set_option maxHeartbeats 400000 in
theorem near_any (b x y : Int) (w : World) (hx : 0 ≤ x) (hx' : x ≤ 9223372036854775807) (hy : 0 ≤ y) (hy' : y ≤ 9223372036854775807) :
    Calls Try.prog 21 #[.int .i64 b, .int .i64 x, .int .i64 y] w fun e w' => e = .returned (.bool (Pl.near b x y)) ∧ w' = w := by
  by_cases h1 : x - y < 0
  all_goals
    by_cases h2 : 0 < b
    all_goals
      go_enter Try.func21, Try.ntmps21
      go_wp2
      go_ret
      exact ⟨ret_bool (by unfold Pl.near; rw [Bool.eq_iff_iff]; simp; omega), rfl⟩

set_option maxHeartbeats 400000 in
theorem similar0_any (b x y : Int) (w : World) (hx : 0 ≤ x) (hx' : x ≤ 9223372036854775807) (hy : 0 ≤ y) (hy' : y ≤ 9223372036854775807) :
    Calls Try.prog 28 #[.int .i64 b, .int .i64 x, .int .i64 y] w fun e w' => e = .returned (.bool (Pl.near b x y)) ∧ w' = w := by
  by_cases h1 : x - y < 0
  all_goals
    by_cases h2 : 0 < b
    all_goals
      go_enter Try.func28, Try.ntmps28
      go_wp2
      go_ret
      exact ⟨ret_bool (by unfold Pl.near; rw [Bool.eq_iff_iff]; simp; omega), rfl⟩

set_option maxHeartbeats 400000 in
theorem sim_any (b : Int) (pt qt : Int) (pw qw : Bool) (pc qc : Int) (pd qd : Bool) (w : World) (hp : Pl.Acc.ok ⟨pt, pw, pc, pd⟩) (hq : Pl.Acc.ok ⟨qt, qw, qc, qd⟩) :
    Calls Try.prog 20 #[.int .i64 b, .agg #[.int .i64 pt, .bool pw, .int .i64 pc, .bool pd], .agg #[.int .i64 qt, .bool qw, .int .i64 qc, .bool qd]] w fun e w' =>
      e = .returned (.bool (Pl.sim b ⟨pt, pw, pc, pd⟩ ⟨qt, qw, qc, qd⟩)) ∧ Below w.heap.size w w' := by
  obtain ⟨hp1, hp2⟩ := hp
  obtain ⟨hq1, hq2⟩ := hq
  simp only at hp1 hp2 hq1 hq2
  cases pd <;> cases qd
  · have hp1 := hp1 rfl
    have hq1 := hq1 rfl
    go_enter Try.func20, Try.ntmps20
    go_wp2_with (go_at_call 21; refine (near_any _ _ _ _ hp1 hp2 hq1 hq2).mono ?_; rintro e w' ⟨rfl, rfl⟩)
    go_ret
    exact ⟨ret_bool (by simp [Pl.sim]), below2 _ _ _⟩
  all_goals
    go_enter Try.func20, Try.ntmps20
    go_wp2
    go_ret
    exact ⟨ret_bool (by simp [Pl.sim]), below2 _ _ _⟩

end Go.Proofs.Qxb6626002a
