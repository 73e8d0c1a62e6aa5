import Derived.Test.Qxb6626002aW3
import Derived.Deep.RegionWith
namespace Go.Proofs.Qxb6626002a
open Go.RowKit
set_option linter.unusedVariables false

theorem below1N (w : World) (o1 : Obj) (n : Nat) : Below w.heap.size w ((w.alloc o1).drewN n) := below_drewN (below1 w o1) n
theorem below1NM (w : World) (o1 : Obj) (n m : Nat) : Below w.heap.size w (((w.alloc o1).drewN n).drewN m) := below_drewN (below1N w o1 n) m

/-- A callee's contract in the second quiet region of a walk: the draws of the first stand ahead. -/
theorem quiet_of2 {P : Program} {f : FuncId} {args : Array Value} {w : World} {k n : Nat} {v : Value}
    (h : Calls P f args (w.drewN (k + n)) fun e w' => e = .returned v ∧ ∃ m, w' = (w.drewN (k + n)).drewN m) : Calls P f args (w.drewN (k + n)) fun e w'' => e = .returned v ∧ ∃ m, w'' = w.drewN (k + m) :=
  h.mono fun _ _ ⟨he, m, hm⟩ => ⟨he, n + m, by rw [hm, World.drewN_drewN, Nat.add_assoc]⟩

set_option maxHeartbeats 800000 in
theorem carry_any (b : Int) (C T A N : Nat) (c : Pl.Car) (pt : Nat) (pw : Bool) (pc : Int) (pd : Bool) (zs : List Int) (r : Int) (w : World) (hCb : Blk w C (carC T c) 55) (hT : Blk w T (setC A N r) 48) (hA : Blk w A (ints zs) 3) (hN : zs.length = N) (ht : pt < N)
    (ho : c.ok) (hds : c.ds = false) (hp : Pl.Acc.ok ⟨pt, pw, pc, pd⟩) :
    Calls Try.prog 25 #[.pointer (some ⟨C, 0, none⟩), .int .i64 b, .agg #[.int .i64 pt, .bool pw, .int .i64 pc, .bool pd]] w fun e w' =>
      e = .returned (.bool (Pl.carry b c (zs.getD pt 0 == r) ⟨pt, pw, pc, pd⟩)) ∧ Keep Non w w' := by
  obtain ⟨sm, ds, lo, hi⟩ := c
  have hC := hCb.lt
  obtain ⟨h0, h1, h2, h3, h4⟩ := carAt hCb
  unfold Pl.Car.ok at ho
  obtain ⟨hp1, hp2⟩ := hp
  simp only at h1 h2 h3 h4 ho hp1 hp2 hds
  subst hds
  have HN : Hid (zs.length = N) := hN
  clear hN
  cases sm
  · clear ho
    go_enter Try.func25, Try.ntmps25
    go_wp2
    go_ret
    exact ⟨ret_bool (by simp [Pl.carry]), Keep.of_below (below1 _ _)⟩
  · obtain ⟨g0, g1, g2⟩ := ho rfl rfl
    clear ho
    cases pd
    · replace hp1 := hp1 rfl
      by_cases hn1 : Pl.near b pc lo = true
      · by_cases hn2 : Pl.near b pc hi = true
        · go_enter Try.func25, Try.ntmps25
          go_wp2
          go_quiet (first | (go_at_call_of 28 (Value.int .i64 lo); exact Calls.quiet_of_same (similar0_any b pc lo _ hp1 hp2 g0 (by omega))) | (go_at_call_of 28 (Value.int .i64 hi); exact Calls.quiet_of_same (similar0_any b pc hi _ hp1 hp2 (by omega) g2)))
          go_wp2
          go_quiet ((go_at_call 29; refine quiet_of2 (has_any T A N pt zs r _ ?_ ?_ HN.out ht); exact hT.alloc _; exact hA.alloc _))
          go_wp2
          go_ret
          exact ⟨ret_bool (by simp [Pl.carry, hn1, hn2]), Keep.of_below (below1NM _ _ _ _)⟩
        · replace hn2 : Pl.near b pc hi = false := by simpa using hn2
          go_enter Try.func25, Try.ntmps25
          go_wp2
          go_quiet (first | (go_at_call_of 28 (Value.int .i64 lo); exact Calls.quiet_of_same (similar0_any b pc lo _ hp1 hp2 g0 (by omega))) | (go_at_call_of 28 (Value.int .i64 hi); exact Calls.quiet_of_same (similar0_any b pc hi _ hp1 hp2 (by omega) g2)))
          go_wp2
          go_quiet (fail)
          go_wp2
          go_ret
          exact ⟨ret_bool (by simp [Pl.carry, hn1, hn2]), Keep.of_below (below1NM _ _ _ _)⟩
      · replace hn1 : Pl.near b pc lo = false := by simpa using hn1
        go_enter Try.func25, Try.ntmps25
        go_wp2
        go_quiet (first | (go_at_call_of 28 (Value.int .i64 lo); exact Calls.quiet_of_same (similar0_any b pc lo _ hp1 hp2 g0 (by omega))) | (go_at_call_of 28 (Value.int .i64 hi); exact Calls.quiet_of_same (similar0_any b pc hi _ hp1 hp2 (by omega) g2)))
        go_wp2
        go_quiet (fail)
        go_wp2
        go_ret
        exact ⟨ret_bool (by simp [Pl.carry, hn1]), Keep.of_below (below1NM _ _ _ _)⟩
    · go_enter Try.func25, Try.ntmps25
      go_wp2
      go_quiet (fail)
      go_wp2
      go_quiet (fail)
      go_wp2
      go_ret
      exact ⟨ret_bool (by simp [Pl.carry]), Keep.of_below (below1NM _ _ _ _)⟩

/-- 'addValues': what it leaves in the block of carriers. -/
theorem addVals_C (T : Nat) (c : Pl.Car) (lo hi : Int) (ds : Bool) : carC T (Pl.addVals c lo hi ds) = #[.pointer (some ⟨T, 0, none⟩), .bool true, .bool (Pl.addVals c lo hi ds).ds, .int .i64 (Pl.addVals c lo hi ds).lo, .int .i64 (Pl.addVals c lo hi ds).hi] := by
  unfold Pl.addVals carC
  split
  · rfl
  · split <;> rfl

set_option maxHeartbeats 800000 in
theorem addValues_any (C T : Nat) (c : Pl.Car) (lo hi : Int) (ds : Bool) (w : World) (hC : Blk w C (carC T c) 55) :
    Calls Try.prog 30 #[.pointer (some ⟨C, 0, none⟩), .int .i64 lo, .int .i64 hi, .bool ds] w fun e w' =>
      e = .returned (.tuple #[]) ∧ Blk w' C (carC T (Pl.addVals c lo hi ds)) 55 ∧ Keep (· = C) w w' := by
  obtain ⟨sm, ds0, lo0, hi0⟩ := c
  obtain ⟨h0, h1, h2, h3, h4⟩ := carAt hC
  simp only at h1 h2 h3 h4
  have f1 := hC.frozen 1
  have f2 := hC.frozen 2
  have f3 := hC.frozen 3
  have f4 := hC.frozen 4
  cases ds
  · cases sm
    · go_enter Try.func30, Try.ntmps30
      go_wp2
      go_end0
      exact ⟨rfl, ((hC.set 3 _).set 4 _).set 1 _, keep3 _ _ _ _ _ _ _ _⟩
    · have hm : min lo0 lo = if lo < lo0 then lo else lo0 := by omega
      have hM : max hi0 hi = if hi0 < hi then hi else hi0 := by omega
      have hA : Pl.addVals ⟨true, ds0, lo0, hi0⟩ lo hi false = ⟨true, ds0, if lo < lo0 then lo else lo0, if hi0 < hi then hi else hi0⟩ := by simp [Pl.addVals, hm, hM]
      rw [hA]
      clear hm hM hA
      by_cases k1 : lo < lo0 <;> by_cases k2 : hi0 < hi <;> simp only [k1, k2, if_true, if_false]
      all_goals
        go_enter Try.func30, Try.ntmps30
        go_wp2
        go_region
        all_goals go_wp2
        all_goals go_end0
        all_goals exact ⟨rfl, ((hC.set 3 _).set 4 _).set 1 _, (keep3 _ _ _ _ _ _ _ _).drew⟩
  · go_enter Try.func30, Try.ntmps30
    go_wp2
    go_end0
    exact ⟨rfl, (hC.set 2 _).set 1 _, keep2 _ _ _ _ _ _⟩

set_option maxHeartbeats 800000 in
theorem add_any (C T A N : Nat) (c : Pl.Car) (pt : Nat) (pw : Bool) (pc : Int) (pd : Bool) (zs : List Int) (r : Int) (w : World) (hC : Blk w C (carC T c) 55) (hT : Blk w T (setC A N r) 48) (hA : Blk w A (ints zs) 3) (hN : zs.length = N) (ht : pt < N)
    (n1 : A ≠ T) (n2 : C ≠ T) (n3 : C ≠ A) :
    Calls Try.prog 26 #[.pointer (some ⟨C, 0, none⟩), .agg #[.int .i64 pt, .bool pw, .int .i64 pc, .bool pd]] w fun e w' =>
      e = .returned (.tuple #[]) ∧ Blk w' C (carC T (Pl.addVals c pc pc pd)) 55 ∧ Blk w' A (ints (zs.set pt r)) 3 ∧ Keep (fun k => k = C ∨ k = A) w w' := by
  have HN : Hid (zs.length = N) := hN
  clear hN
  go_enter Try.func26, Try.ntmps26
  go_wp2_with fail
  refine (addValues_any C T c _ _ _ _ (hC.alloc _)).mono ?_
  rintro e w1 ⟨rfl, hC1, hk1⟩
  have c0 : w1.cell? ⟨C, 0, none⟩ = some (.pointer (some ⟨T, 0, none⟩)) := hC1.cell 0
  have cp : w1.cell? ⟨w.heap.size, 0, none⟩ = some (.int .i64 pt) := (hk1.cell (p := ⟨w.heap.size, 0, none⟩) (by simp) (by have := hC.lt; simp; omega)).trans (by simp)
  have hT1 : Blk w1 T (setC A N r) 48 := (hT.alloc _).keep hk1 n2.symm
  have hA1 : Blk w1 A (ints zs) 3 := (hA.alloc _).keep hk1 n3.symm
  go_wp2
  go_region_with (go_at_call 31; refine (txadd_any T A N pt zs r _ ?_ ?_ HN.out ht n1).mono ?_; exact hT1; exact hA1; rintro e w2 ⟨rfl, hA2, hk2⟩)
  all_goals (go_end0; exact ⟨rfl, hC1.drew.keep hk2 n3, hA2, ((((Keep.refl _ w).alloc _).then hk1 fun _ _ e => .inl e).drew).then hk2 fun _ _ e => .inr e⟩)

end Go.Proofs.Qxb6626002a
