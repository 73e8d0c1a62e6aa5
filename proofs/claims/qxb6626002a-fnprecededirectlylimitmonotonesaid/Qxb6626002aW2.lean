import Derived.Test.Qxb6626002aW1
import Derived.Deep.QuietTactic
import Derived.BigQuiet
namespace Go.Proofs.Qxb6626002a
open Go.RowKit
set_option linter.unusedVariables false

set_option maxHeartbeats 400000 in
theorem conf_any (b : Int) (pt qt : Int) (pw qw : Bool) (pc qc : Int) (pd qd : Bool) (w : World) (hp : Pl.Acc.ok ⟨pt, pw, pc, pd⟩) (hq : Pl.Acc.ok ⟨qt, qw, qc, qd⟩) :
    Calls Try.prog 16 #[.int .i64 b, .agg #[.int .i64 pt, .bool pw, .int .i64 pc, .bool pd], .agg #[.int .i64 qt, .bool qw, .int .i64 qc, .bool qd]] w fun e w' =>
      e = .returned (.bool (Pl.conf b ⟨pt, pw, pc, pd⟩ ⟨qt, qw, qc, qd⟩)) ∧ Below w.heap.size w w' := by
  by_cases ht : pt = qt
  · subst ht
    go_enter Try.func16, Try.ntmps16
    go_wp2
    go_ret
    exact ⟨ret_bool (by simp [Pl.conf]), below2 _ _ _⟩
  · have hb : (pt != qt) = true := by simpa using ht
    cases pw <;> cases qw
    · go_enter Try.func16, Try.ntmps16
      go_wp2
      go_ret
      exact ⟨ret_bool (by simp [Pl.conf]), below2 _ _ _⟩
    · go_enter Try.func16, Try.ntmps16
      go_wp2_with (go_at_call 20; refine (sim_any _ _ _ _ _ _ _ _ _ _ hp hq).mono ?_; rintro e w' ⟨rfl, hbel⟩)
      go_ret
      exact ⟨ret_bool (by simp [Pl.conf, ht]), below_then (below2 _ _ _) hbel⟩
    · go_enter Try.func16, Try.ntmps16
      go_wp2
      go_ret
      exact ⟨ret_bool (by simp [Pl.conf, ht]), below2 _ _ _⟩
    · go_enter Try.func16, Try.ntmps16
      go_wp2_with (go_at_call 20; refine (sim_any _ _ _ _ _ _ _ _ _ _ hp hq).mono ?_; rintro e w' ⟨rfl, hbel⟩)
      go_ret
      exact ⟨ret_bool (by simp [Pl.conf, ht]), below_then (below2 _ _ _) hbel⟩

set_option maxHeartbeats 400000 in
theorem carr_any (b : Int) (pt qt : Int) (pw qw : Bool) (pc qc : Int) (pd qd : Bool) (w : World) (hp : Pl.Acc.ok ⟨pt, pw, pc, pd⟩) (hq : Pl.Acc.ok ⟨qt, qw, qc, qd⟩) :
    Calls Try.prog 19 #[.int .i64 b, .agg #[.int .i64 pt, .bool pw, .int .i64 pc, .bool pd], .agg #[.int .i64 qt, .bool qw, .int .i64 qc, .bool qd]] w fun e w' =>
      e = .returned (.bool (Pl.carr b ⟨pt, pw, pc, pd⟩ ⟨qt, qw, qc, qd⟩)) ∧ Below w.heap.size w w' := by
  cases pw
  · go_enter Try.func19, Try.ntmps19
    go_wp2
    go_ret
    exact ⟨ret_bool (by simp [Pl.carr]), below2 _ _ _⟩
  · by_cases ht : pt = qt
    · subst ht
      go_enter Try.func19, Try.ntmps19
      go_wp2
      go_ret
      exact ⟨ret_bool (by simp [Pl.carr]), below2 _ _ _⟩
    · have hb : (pt == qt) = false := by simpa using ht
      go_enter Try.func19, Try.ntmps19
      go_wp2_with (go_at_call 16; refine (conf_any _ _ _ _ _ _ _ _ _ _ hp hq).mono ?_; rintro e w' ⟨rfl, hbel⟩)
      go_ret
      exact ⟨ret_bool (by simp [Pl.carr, ht]), below_then (below2 _ _ _) hbel⟩

theorem below2N (w : World) (o1 o2 : Obj) (n : Nat) : Below w.heap.size w (((w.alloc o1).alloc o2).drewN n) := below_drewN (below2 w o1 o2) n

set_option maxHeartbeats 400000 in
theorem hsim_any (b : Int) (L : Nat) (pt qt : Int) (pw qw : Bool) (pc qc : Int) (pd qd : Bool) (w : World) (hp : Pl.Acc.ok ⟨pt, pw, pc, pd⟩) (hq : Pl.Acc.ok ⟨qt, qw, qc, qd⟩)
    (hb : w.cell? ⟨L, 0, none⟩ = some (.int .i64 b)) :
    Calls Try.prog 27 #[.pointer (some ⟨L, 0, none⟩), .agg #[.int .i64 pt, .bool pw, .int .i64 pc, .bool pd], .agg #[.int .i64 qt, .bool qw, .int .i64 qc, .bool qd]] w fun e w' =>
      e = .returned (.bool (Pl.sim b ⟨pt, pw, pc, pd⟩ ⟨qt, qw, qc, qd⟩)) ∧ Below w.heap.size w w' := by
  have hL := World.block_lt_of_cell? _ _ hb
  simp only at hL
  obtain ⟨hp1, hp2⟩ := hp
  obtain ⟨hq1, hq2⟩ := hq
  simp only at hp1 hp2 hq1 hq2
  cases pd <;> cases qd
  · replace hp1 := hp1 rfl
    replace hq1 := hq1 rfl
    have hL' : L < w.heap.size + 1 := by omega
    go_enter Try.func27, Try.ntmps27
    go_wp2
    go_quiet ((go_at_call 28; exact Calls.quiet_of_same (similar0_any _ _ _ _ hp1 hp2 hq1 hq2)))
    go_wp2
    go_ret
    exact ⟨ret_bool (by simp [Pl.sim]), below2N _ _ _ _⟩
  all_goals
    go_enter Try.func27, Try.ntmps27
    go_wp2
    go_quiet (fail)
    go_wp2
    go_ret
    exact ⟨ret_bool (by simp [Pl.sim]), below2N _ _ _ _⟩

set_option maxHeartbeats 400000 in
theorem hconf_any (b : Int) (L : Nat) (pt qt : Int) (pw qw : Bool) (pc qc : Int) (pd qd : Bool) (w : World) (hp : Pl.Acc.ok ⟨pt, pw, pc, pd⟩) (hq : Pl.Acc.ok ⟨qt, qw, qc, qd⟩)
    (hb : w.cell? ⟨L, 0, none⟩ = some (.int .i64 b)) :
    Calls Try.prog 24 #[.pointer (some ⟨L, 0, none⟩), .agg #[.int .i64 pt, .bool pw, .int .i64 pc, .bool pd], .agg #[.int .i64 qt, .bool qw, .int .i64 qc, .bool qd]] w fun e w' =>
      e = .returned (.bool (Pl.conf b ⟨pt, pw, pc, pd⟩ ⟨qt, qw, qc, qd⟩)) ∧ Below w.heap.size w w' := by
  have hL := World.block_lt_of_cell? _ _ hb
  simp only at hL
  by_cases ht : pt = qt
  · subst ht
    go_enter Try.func24, Try.ntmps24
    go_wp2
    go_ret
    exact ⟨ret_bool (by simp [Pl.conf]), below2 _ _ _⟩
  · have hbn : (pt != qt) = true := by simpa using ht
    have hL' : L < w.heap.size + 1 := by omega
    cases pw <;> cases qw
    · go_enter Try.func24, Try.ntmps24
      go_wp2
      go_ret
      exact ⟨ret_bool (by simp [Pl.conf]), below2 _ _ _⟩
    · go_enter Try.func24, Try.ntmps24
      go_wp2_with (go_at_call 27; refine (hsim_any b L _ _ _ _ _ _ _ _ _ hp hq (by simp [World.cell?_alloc_past, hL, hL', hb])).mono ?_; rintro e w' ⟨rfl, hbel⟩)
      go_ret
      exact ⟨ret_bool (by simp [Pl.conf, ht]), below_then (below2 _ _ _) hbel⟩
    · go_enter Try.func24, Try.ntmps24
      go_wp2
      go_ret
      exact ⟨ret_bool (by simp [Pl.conf, ht]), below2 _ _ _⟩
    · go_enter Try.func24, Try.ntmps24
      go_wp2_with (go_at_call 27; refine (hsim_any b L _ _ _ _ _ _ _ _ _ hp hq (by simp [World.cell?_alloc_past, hL, hL', hb])).mono ?_; rintro e w' ⟨rfl, hbel⟩)
      go_ret
      exact ⟨ret_bool (by simp [Pl.conf, ht]), below_then (below2 _ _ _) hbel⟩

end Go.Proofs.Qxb6626002a
