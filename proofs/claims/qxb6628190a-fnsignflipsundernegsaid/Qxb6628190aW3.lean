import Derived.Test.Qxb6628190aW2
import Derived.Deep.RegionHeld3
namespace Go.Proofs.Qxb6628190a
open Go.RowKit
set_option linter.unusedVariables false

set_option maxHeartbeats 400000 in
theorem neg_any (neg : Bool) (m l X : Nat) (w : World) (hm : m < 144115188075855872) (hX : X < 64) :
    Calls Try.prog 9 #[.agg #[.int .u64 (hiw neg m X : Nat), .int .u64 l]] w fun e w' => (∃ Y : Nat, Y < 64 ∧ e = .returned (.agg #[.int .u64 (hiw (decide (0 < sgn neg m l)) m Y : Nat), .int .u64 l])) ∧ Keep Non w w' := by
  have hK : Keep Non w ((w.alloc (.cells #[.int .u64 (hiw neg m X : Nat), .int .u64 l] 25)).alloc (.cells #[.int .u64 0, .int .u64 0] 25)) := ((Keep.refl _ _).alloc _).alloc _
  have hB1 : Blk ((w.alloc (.cells #[.int .u64 (hiw neg m X : Nat), .int .u64 l] 25)).alloc (.cells #[.int .u64 0, .int .u64 0] 25)) w.heap.size #[.int .u64 (hiw neg m X : Nat), .int .u64 l] 25 := (Blk.new w _ _).alloc _
  have hB2 : Blk ((w.alloc (.cells #[.int .u64 (hiw neg m X : Nat), .int .u64 l] 25)).alloc (.cells #[.int .u64 0, .int .u64 0] 25)) (w.heap.size + 1) #[.int .u64 0, .int .u64 0] 25 := Blk.new' _ _ _ _ (by simp)
  go_enter Try.func9, Try.ntmps9
  go_wp2_with fail
  go_region_held3 (fun w' => w'.cell? ⟨w.heap.size, 0, none⟩ = some (.int .u64 (hiw neg m X : Nat)) ∧ w'.cell? ⟨w.heap.size, 1, none⟩ = some (.int .u64 l)) (first | exact ⟨z0, z1⟩ | go_keep) (first | (go_at_call 7; refine (sign_any neg m l X _ hm hX).mono ?_; rintro e wn ⟨rfl, hk⟩; have hK := Keep.non hK ⟨hk.os, hk.tape, hk.output, hk.size, hk.block⟩; have hB1 := Blk.non hB1 ⟨hk.os, hk.tape, hk.output, hk.size, hk.block⟩; have hB2 := Blk.non hB2 ⟨hk.os, hk.tape, hk.output, hk.size, hk.block⟩; have z0 := (hB1.cell 0).trans (show _ = some (Value.int .u64 (hiw neg m X : Nat)) from rfl); have z1 := (hB1.cell 1).trans (show _ = some (Value.int .u64 l) from rfl); have t0 := (hB2.cell 0).trans (show _ = some (Value.int .u64 0) from rfl); have t1 := (hB2.cell 1).trans (show _ = some (Value.int .u64 0) from rfl); have f0 := hB2.frozen 0; have f1 := hB2.frozen 1) | (go_at_call 14; refine (mag_any neg m l X _ hm hX).mono ?_; rintro e wn ⟨rfl, hk⟩; have hK := Keep.non hK ⟨hk.os, hk.tape, hk.output, hk.size, hk.block⟩; have hB1 := Blk.non hB1 ⟨hk.os, hk.tape, hk.output, hk.size, hk.block⟩; have hB2 := Blk.non hB2 ⟨hk.os, hk.tape, hk.output, hk.size, hk.block⟩; have z0 := (hB1.cell 0).trans (show _ = some (Value.int .u64 (hiw neg m X : Nat)) from rfl); have z1 := (hB1.cell 1).trans (show _ = some (Value.int .u64 l) from rfl); have t0 := (hB2.cell 0).trans (show _ = some (Value.int .u64 0) from rfl); have t1 := (hB2.cell 1).trans (show _ = some (Value.int .u64 0) from rfl); have f0 := hB2.frozen 0; have f1 := hB2.frozen 1) | (go_at_call 15; refine (exponent_any neg m l X _ hm hX).mono ?_; rintro e wn ⟨⟨xx, rfl⟩, hk⟩; have hK := Keep.non hK ⟨hk.os, hk.tape, hk.output, hk.size, hk.block⟩; have hB1 := Blk.non hB1 ⟨hk.os, hk.tape, hk.output, hk.size, hk.block⟩; have hB2 := Blk.non hB2 ⟨hk.os, hk.tape, hk.output, hk.size, hk.block⟩; have z0 := (hB1.cell 0).trans (show _ = some (Value.int .u64 (hiw neg m X : Nat)) from rfl); have z1 := (hB1.cell 1).trans (show _ = some (Value.int .u64 l) from rfl); have t0 := (hB2.cell 0).trans (show _ = some (Value.int .u64 0) from rfl); have t1 := (hB2.cell 1).trans (show _ = some (Value.int .u64 0) from rfl); have f0 := hB2.frozen 0; have f1 := hB2.frozen 1) | (go_at_call 12; refine (compose_any (decide (0 < sgn neg m l)) m l xx _ hm).mono ?_; rintro e wn ⟨⟨Y, hY, rfl⟩, hk⟩; have hK := Keep.non hK ⟨hk.os, hk.tape, hk.output, hk.size, hk.block⟩; have hB1 := Blk.non hB1 ⟨hk.os, hk.tape, hk.output, hk.size, hk.block⟩; have hB2 := Blk.non hB2 ⟨hk.os, hk.tape, hk.output, hk.size, hk.block⟩; have z0 := (hB1.cell 0).trans (show _ = some (Value.int .u64 (hiw neg m X : Nat)) from rfl); have z1 := (hB1.cell 1).trans (show _ = some (Value.int .u64 l) from rfl); have t0 := (hB2.cell 0).trans (show _ = some (Value.int .u64 0) from rfl); have t1 := (hB2.cell 1).trans (show _ = some (Value.int .u64 0) from rfl); have f0 := hB2.frozen 0; have f1 := hB2.frozen 1))
  go_wp2
  exact bodyPost_ret (v := .agg #[.int .u64 (hiw (decide (0 < sgn neg m l)) m Y : Nat), .int .u64 l]) (by simp [results, Try.results9, go_sem, t0, t1]) rfl ⟨⟨Y, hY, rfl⟩, (hK.setCell _ _ (fun h => absurd h (by simp))).setCell _ _ (fun h => absurd h (by simp))⟩

theorem sgn_flip (neg : Bool) (m l : Nat) : sgn (decide (0 < sgn neg m l)) m l = - sgn neg m l := by
  by_cases hz : m = 0 ∧ l = 0
  · simp [sgn, hz]
  · cases neg <;> simp [sgn, hz]
theorem sgn_bound (neg : Bool) (m l : Nat) : -1 ≤ sgn neg m l ∧ sgn neg m l ≤ 1 := by
  unfold sgn; repeat' split
  all_goals omega
end Go.Proofs.Qxb6628190a
