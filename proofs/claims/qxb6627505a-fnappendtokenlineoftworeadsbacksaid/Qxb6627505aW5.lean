import Derived.Test.Qxb6627505aW4
import Derived.Lib.AppendZeros
namespace Go.Proofs.Qxb6627505a
open Go.RowKit
set_option linter.unusedVariables false

/-- append of a made row of zeros onto a row that is full: a new row. -/
theorem run_append_full_zeros {P : Program} (w : World) (t tn ty e : TypeId) (i : TypeInfo) (z : Value) (k kn : IntKind) (ht : P.underlying t = some (.slice e)) (htn : P.underlying tn = some (.int kn)) (hi : P.info? e = some i) (hz : i.zero = some z)
    (b : Addr) (sLen sCap : Nat) (olds : List Value) (hlo : olds.length = sLen * i.size) (holds : ∀ j v, olds[j]? = some v → w.cell? (b.add j) = some v)
    (n : Nat) (h0 : 0 < n) (hs : 0 < i.size) (hg : sCap < sLen + n) (h63 : ((sLen + n : Nat) : Int) ≤ 9223372036854775807) (h48 : n * i.bytes ≤ 281474976710656) (hfit : Builtin.nextslicecap (sLen + n) sCap * i.bytes ≤ 281474976710656) :
    (Builtin.append_ #[t, tn] ty #[.slice (some b) sLen sCap, .int k n]).run P w =
      .ok (.slice (some ⟨w.heap.size, 0, none⟩) (sLen + n) (grownCap w (sLen + n) sCap e)) (w.drew.alloc (.cells (olds.toArray ++ Builtin.zeroCells z.cells n ++ Builtin.zeroCells z.cells (grownCap w (sLen + n) sCap e - (sLen + n))) e)) := by
  have hn : n ≠ 0 := by omega
  have hgn : ¬ (sLen + n ≤ sCap) := by omega
  have hw : IntKind.i64.wrap (n : Int) = n := by rw [IntKind.wrap_i64]; omega
  have h63' : ¬ (9223372036854775807 < ((sLen : Int) + (n : Int))) := by omega
  have h48' : ¬ (281474976710656 < Builtin.nextslicecap (sLen + n) sCap * i.bytes) := by omega
  have h48i : ¬ (281474976710656 < (n : Int) * (i.bytes : Int)) := by
    rw [← Int.natCast_mul]
    omega
  have hneg : ¬ ((n : Int) < 0) := by omega
  have hns : ¬ (n * i.size = 0) := Nat.mul_ne_zero hn (by omega)
  have hfo := run_firstCells_some (P := P) w.drew i.size sLen b sLen sCap olds hlo (by simpa using holds)
  simp [Builtin.append_, run_underlying ht, run_underlying htn, sizeOf, typeInfo, zeroValue, hi, hz, asInt, asIntOf, hw, hneg, hns, hgn, h63', h48', h48i, Question.forced, hfo, newRow, grownCap]

/-- A buffer with room for m more. -/
def Roomy (w : World) (base g n cap : Nat) (z : List Int) (m : Nat) : Prop := ∃ cur : Array Value, base ≤ g ∧ w.heap[g]? = some (.cells cur 5 (0, 0)) ∧ n = z.length ∧ n + m ≤ cap ∧ cap ≤ maxLen ∧ cur.size = cap ∧ cur.toList.take n = vals z

set_option maxHeartbeats 800000 in
theorem grow_any (base g cap : Nat) (z : List Int) (w : World) (h : Own w base (.slice (some ⟨g, 0, none⟩) z.length cap) z) (hb : base ≤ w.heap.size) (hz : z.length ≤ 9000000) :
    Calls Try.prog 19 #[.slice (some ⟨g, 0, none⟩) z.length cap, .int .i64 2] w fun e w' => ∃ g' cap', e = .returned (.slice (some ⟨g', 0, none⟩) z.length cap') ∧ Roomy w' base g' z.length cap' z 2 ∧ Keep (fun k => k = g) w w' ∧ (g' = g ∨ w.heap.size ≤ g') := by
  obtain ⟨hl, hh⟩ := h
  rcases hh with ⟨hh, _⟩ | ⟨g1, cap1, cur, hv, hg1, hcell, hle, hmax, hsz, htk⟩
  · cases hh
  simp only [Value.slice.injEq, Option.some.injEq, Addr.mk.injEq, and_true, true_and] at hv
  obtain ⟨rfl, rfl⟩ := hv
  have hmax2 : cap ≤ 9223372036854775807 := by simpa [maxLen] using hmax
  simp only [Nat.mul_one] at hl htk hsz
  by_cases hr : z.length + 2 ≤ cap
  · go_enter Try.func19, Try.ntmps19
    go_wp2
    go_ret
    exact ⟨g, cap, rfl, ⟨cur, hg1, hcell, rfl, hr, hmax, hsz, htk⟩, Keep.refl _ _, .inl rfl⟩
  · obtain ⟨m, hm⟩ : ∃ m : Nat, (2 : Int) - ((cap : Int) - (z.length : Int)) = (m : Int) := ⟨(2 - ((cap : Int) - (z.length : Int))).toNat, by omega⟩
    have hm0 : 0 < m := by omega
    have hm1 : cap + m = z.length + 2 := by omega
    obtain ⟨i0, hi, hz0, hz1, hz2⟩ := info_parts Try.info5
    have hcells : ∀ j v, cur.toList[j]? = some v → w.cell? ((⟨g, 0, none⟩ : Addr).add j) = some v := by
      intro j v hj
      have : (⟨g, 0, none⟩ : Addr).add j = ⟨g, j, none⟩ := by unfold Addr.add; split <;> simp_all
      rw [this, cell_of_row w g j cur 5 (0, 0) hcell]
      simpa using hj
    have hap := run_append_full_zeros (P := Try.prog) w 22 3 22 5 i0 (.int .u8 0) .i64 .i64 Try.underlying22 Try.underlying3 hi hz0 ⟨g, 0, none⟩ cap cap cur.toList (by rw [hz1]; simp [hsz]) hcells m hm0 (by rw [hz1]; decide) (by omega) (by omega) (by rw [hz2]; omega) (growslice_fits (by omega) (by rw [hz2]; omega))
    rw [hm1] at hap
    have hC := grownCap_ge w (z.length + 2) cap 5
    have hC2 := grownCap_le_maxLen w (z.length + 2) cap 5 (by unfold maxLen; omega)
    generalize grownCap w (z.length + 2) cap 5 = C at hap hC hC2
    have hC3 : C ≤ 9223372036854775807 := by simpa [maxLen] using hC2
    go_enter Try.func19, Try.ntmps19
    go_wp2_with (at_builtin; refine Lib.wpList_append_run _ rfl _ _ _ _ rfl _ _ rfl rfl _ _ hap ?_)
    go_ret
    refine ⟨_, _, rfl, ⟨_, hb, (heap_alloc_new w _), rfl, hC, hC2, ?_, ?_⟩, ((Keep.refl _ _).alloc _).drew, .inr (Nat.le_refl _)⟩
    · simp [size_zeroCells, hsz]; omega
    · simp [List.take_append_of_le_length, hsz, hle, htk]
end Go.Proofs.Qxb6627505a
