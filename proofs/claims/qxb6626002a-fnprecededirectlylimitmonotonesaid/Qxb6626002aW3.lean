import Derived.Test.Qxb6626002aW2
import Derived.Test.Qxb6626002aMem
import Derived.RegionTactic
import Derived.ChangeAlike
import Derived.BigRegion
namespace Go.Proofs.Qxb6626002a
open Go.RowKit
set_option linter.unusedVariables false

/-- The cells of a block of carriers; of a set of transactions. -/
def carC (T : Nat) (c : Pl.Car) : Array Value := #[.pointer (some ⟨T, 0, none⟩), .bool c.sm, .bool c.ds, .int .i64 c.lo, .int .i64 c.hi]
def setC (A N : Nat) (r : Int) : Array Value := #[.slice (some ⟨A, 0, none⟩) N N, .int .i64 r]

/-- The cells of a block of carriers. -/
def CarAt (w : World) (C T : Nat) (c : Pl.Car) : Prop :=
  w.cell? ⟨C, 0, none⟩ = some (.pointer (some ⟨T, 0, none⟩)) ∧ w.cell? ⟨C, 1, none⟩ = some (.bool c.sm) ∧ w.cell? ⟨C, 2, none⟩ = some (.bool c.ds) ∧
    w.cell? ⟨C, 3, none⟩ = some (.int .i64 c.lo) ∧ w.cell? ⟨C, 4, none⟩ = some (.int .i64 c.hi)
theorem carAt {w : World} {C T : Nat} {c : Pl.Car} (h : Blk w C (carC T c) 55) : CarAt w C T c := ⟨h.cell 0, h.cell 1, h.cell 2, h.cell 3, h.cell 4⟩

set_option maxHeartbeats 400000 in
theorem clear_any (T A N : Nat) (r : Int) (w : World) (hT : Blk w T (setC A N r) 48) (h0 : 0 ≤ r) (h1 : r < 1000) :
    Calls Try.prog 22 #[.pointer (some ⟨T, 0, none⟩)] w fun e w' => e = .returned (.tuple #[]) ∧ Blk w' T (setC A N (r + 1)) 48 ∧ Keep (· = T) w w' := by
  have h : w.cell? ⟨T, 1, none⟩ = some (.int .i64 r) := hT.cell 1
  have hf := hT.frozen 1
  go_enter Try.func22, Try.ntmps22
  go_wp2
  go_end0
  exact ⟨rfl, hT.set 1 _, keep1 _ _ _ _⟩

set_option maxHeartbeats 400000 in
theorem carryAll_any (b : Int) (C T : Nat) (c : Pl.Car) (w : World) (hc : CarAt w C T c) (ho : c.ok) (hb : 0 ≤ b) (hb' : b ≤ 9223372036854775807) :
    Calls Try.prog 23 #[.pointer (some ⟨C, 0, none⟩), .int .i64 b] w fun e w' => e = .returned (.bool (Pl.carryAll b c)) ∧ ∃ n, w' = w.drewN n := by
  obtain ⟨sm, ds, lo, hi⟩ := c
  obtain ⟨h0, h1, h2, h3, h4⟩ := hc
  unfold Pl.Car.ok at ho
  simp only at h1 h2 h3 h4 ho
  cases sm
  · clear ho
    go_enter Try.func23, Try.ntmps23
    go_wp2
    go_quiet (fail)
    go_wp2
    go_ret
    exact ⟨ret_bool (by simp [Pl.carryAll]), _, rfl⟩
  · by_cases hz : b = 0
    · subst hz
      clear ho
      go_enter Try.func23, Try.ntmps23
      go_wp2
      go_quiet (fail)
      go_wp2
      go_ret
      exact ⟨ret_bool (by simp [Pl.carryAll]), _, rfl⟩
    · have hz' : (b == 0) = false := by simpa using hz
      cases ds
      · obtain ⟨g0, g1, g2⟩ := ho rfl rfl
        clear ho
        go_enter Try.func23, Try.ntmps23
        go_wp2
        go_quiet (fail)
        go_wp2
        go_ret
        exact ⟨ret_bool (by simp [Pl.carryAll, hz]), _, rfl⟩
      · clear ho
        go_enter Try.func23, Try.ntmps23
        go_wp2
        go_quiet (fail)
        go_wp2
        go_ret
        exact ⟨ret_bool (by simp [Pl.carryAll]), _, rfl⟩

set_option maxHeartbeats 400000 in
theorem has_any (T A : Nat) (N : Nat) (t : Nat) (zs : List Int) (r : Int) (w : World) (hT : Blk w T (setC A N r) 48) (hA : Blk w A (ints zs) 3) (hN : zs.length = N) (ht : t < N) :
    Calls Try.prog 29 #[.pointer (some ⟨T, 0, none⟩), .int .i64 t] w fun e w' => e = .returned (.bool (zs.getD t 0 == r)) ∧ ∃ n, w' = w.drewN n := by
  have ht' : (t : Int) < (N : Int) := by omega
  have c0 : w.cell? ⟨T, 0, none⟩ = some (.slice (some ⟨A, 0, none⟩) N N) := hT.cell 0
  have c1 : w.cell? ⟨T, 1, none⟩ = some (.int .i64 r) := hT.cell 1
  have c2 : w.cell? ⟨A, t, none⟩ = some (.int .i64 (zs.getD t 0)) := (hA.cell t).trans (ints_get zs t (by omega))
  clear hN
  generalize zs.getD t 0 = x at *
  go_enter Try.func29, Try.ntmps29
  go_wp2
  go_quiet (fail)
  go_wp2
  go_ret
  exact ⟨ret_bool rfl, _, rfl⟩

set_option maxHeartbeats 400000 in
theorem txadd_any (T A : Nat) (N : Nat) (t : Nat) (zs : List Int) (r : Int) (w : World) (hT : Blk w T (setC A N r) 48) (hA : Blk w A (ints zs) 3) (hN : zs.length = N) (ht : t < N) (hne : A ≠ T) :
    Calls Try.prog 31 #[.pointer (some ⟨T, 0, none⟩), .int .i64 t] w fun e w' => e = .returned (.tuple #[]) ∧ Blk w' A (ints (zs.set t r)) 3 ∧ Keep (· = A) w w' := by
  have ht' : (t : Int) < (N : Int) := by omega
  have c0 : w.cell? ⟨T, 0, none⟩ = some (.slice (some ⟨A, 0, none⟩) N N) := hT.cell 0
  have c1 : w.cell? ⟨T, 1, none⟩ = some (.int .i64 r) := hT.cell 1
  have c2 : w.cell? ⟨A, t, none⟩ = some (.int .i64 (zs.getD t 0)) := (hA.cell t).trans (ints_get zs t (by omega))
  have f2 := hA.frozen t
  have hs := hA.set t (.int .i64 r)
  rw [ints_set] at hs
  clear hN
  go_enter Try.func31, Try.ntmps31
  go_wp2
  go_region
  all_goals (go_end0; exact ⟨rfl, hs, (keep1 _ _ _ _).drew⟩)

end Go.Proofs.Qxb6626002a
