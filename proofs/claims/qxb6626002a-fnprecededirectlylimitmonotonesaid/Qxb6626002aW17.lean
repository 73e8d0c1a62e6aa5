import Derived.Test.Qxb6626002aM4
namespace Go.Proofs.Qxb6626002a
open Go.RowKit
set_option linter.unusedVariables false

set_option maxRecDepth 100000 in
set_option maxHeartbeats 3200000 in
theorem law4_walk (b : Int) (a1 a2 a3 a4 : Option Addr) (n1 c1 n2 c2 n3 c3 n4 c4 : Nat) (F1 F3 : Nat → Int) (F2 F4 : Nat → Bool) (qt : Int) (qw : Bool) (qc : Int) (qd : Bool) (la lb : Int) (w : World)
    (l1 : n1 ≤ 9223372036854775807) (l2 : n2 ≤ 9223372036854775807) (l3 : n3 ≤ 9223372036854775807) (l4 : n4 ≤ 9223372036854775807)
    (s1 : Src w a1 n1 c1 (fun i => .int .i64 (F1 i))) (s2 : Src w a2 n2 c2 (fun i => .bool (F2 i))) (s3 : Src w a3 n3 c3 (fun i => .int .i64 (F3 i))) (s4 : Src w a4 n4 c4 (fun i => .bool (F4 i)))
    (hb' : b ≤ 9223372036854775807) (hc : ∀ i, i < n3 → F3 i ≤ 9223372036854775807) (hqc : qc ≤ 9223372036854775807) :
    Calls Try.prog 4 #[.int .i64 b, .slice a1 n1 c1, .slice a2 n2 c2, .slice a3 n3 c3, .slice a4 n4 c4, .int .i64 qt, .bool qw, .int .i64 qc, .bool qd, .int .i64 la, .int .i64 lb] w fun e w' =>
      e = .returned (.bool true) ∧ Keep Non w w' := by
  have e1 : ∀ w : World, (binOp .neq 22 (.slice a1 n1 c1) (.slice none 0 0)).run Try.prog w = .ok (.bool (!a1.isNone)) w := fun w => run_neq_slice_nil_any w 22 3 a1 n1 c1 0 0 Try.underlying22
  have e2 : ∀ w : World, (binOp .neq 23 (.slice a2 n2 c2) (.slice none 0 0)).run Try.prog w = .ok (.bool (!a2.isNone)) w := fun w => run_neq_slice_nil_any w 23 4 a2 n2 c2 0 0 Try.underlying23
  have e3 : ∀ w : World, (binOp .neq 24 (.slice a3 n3 c3) (.slice none 0 0)).run Try.prog w = .ok (.bool (!a3.isNone)) w := fun w => run_neq_slice_nil_any w 24 2 a3 n3 c3 0 0 Try.underlying24
  have e4 : ∀ w : World, (binOp .neq 23 (.slice a4 n4 c4) (.slice none 0 0)).run Try.prog w = .ok (.bool (!a4.isNone)) w := fun w => run_neq_slice_nil_any w 23 4 a4 n4 c4 0 0 Try.underlying23
  have Hc : Hid (∀ i, i < n3 → F3 i ≤ 9223372036854775807) := hc
  clear hc
  go_enter Try.func4, Try.ntmps4
  go_wp2_with fail
  refine (bytes4_any b a1 a2 a3 a4 n1 c1 n2 c2 n3 c3 n4 c4 qt qw qc qd la lb w l1 l2 l3 l4).mono ?_
  rintro e w' ⟨hw, c, rfl⟩
  obtain rfl := hw.symm
  cases c
  · as_aux_lemma =>
      go_wp2
      go_ret
      exact ⟨rfl, Keep.refl _ _⟩
  by_cases m1 : 4096 < n1
  · as_aux_lemma =>
      go_wp2
      go_ret
      exact ⟨rfl, Keep.refl _ _⟩
  by_cases m2 : 4096 < n2
  · as_aux_lemma =>
      go_wp2
      go_ret
      exact ⟨rfl, Keep.refl _ _⟩
  by_cases m3 : 4096 < n3
  · as_aux_lemma =>
      go_wp2
      go_ret
      exact ⟨rfl, Keep.refl _ _⟩
  by_cases m4 : 4096 < n4
  · as_aux_lemma =>
      go_wp2
      go_ret
      exact ⟨rfl, Keep.refl _ _⟩
  go_upto_if 81 with fail
  go_cut [1] (fun c wx => ∃ a', c = .slice a' n1 n1 ∧ Arr wx a' n1 (fun i => .int .i64 (F1 i)) ∧ Keep Non w wx)
  case first => as_aux_lemma =>
    rcases s1 with ⟨rfl, rfl, rfl⟩ | ⟨x, rfl, fx⟩
    · go_wp2
      go_meet
      case rel => exact ⟨none, rfl, .inl rfl, Keep.refl _ _⟩
    · have mk := fun w => make22 n1 n1 (Nat.le_refl _) (by omega) w
      have hsrc : ∀ i, i < n1 → (w.alloc (.cells (ints (List.replicate n1 0)) 3)).cell? (x.add i) = some (.int .i64 (F1 i)) := fun i hi => (((Keep.refl Non w).alloc _).cell (p := x.add i) (World.block_lt_of_cell? _ _ (fx i hi)) fun e => e).trans (fx i hi)
      go_wp2_with (refine wpList_copy_all rfl _ _ 22 rfl 3 Try.underlying22 Try.size3 w.heap.size n1 x c1 rfl rfl (ints (List.replicate n1 0)) (Blk.new _ _ _) (by simp [ints]) (fun i => .int .i64 (F1 i)) hsrc (fun _ => rfl) ?_)
      intro w' hB kB
      go_wp2
      go_meet
      case rel => exact ⟨_, rfl, arr_of_row hB, ((Keep.refl Non w).alloc _).then kB (by rintro i hi rfl; exact absurd hi (Nat.lt_irrefl _))⟩
  case rest =>
    obtain ⟨b1, rfl, A1, k1⟩ := hcut
    replace s2 := s2.non k1
    replace s3 := s3.non k1
    replace s4 := s4.non k1
    clear s1 e1
    generalize wc = w1 at *
    go_upto_if 90 with fail
    go_cut [2] (fun c wx => ∃ a', c = .slice a' n2 n2 ∧ Arr wx a' n2 (fun i => .bool (F2 i)) ∧ Keep Non w1 wx)
    case first => as_aux_lemma =>
      rcases s2 with ⟨rfl, rfl, rfl⟩ | ⟨x, rfl, fx⟩
      · go_wp2
        go_meet
        case rel => exact ⟨none, rfl, .inl rfl, Keep.refl _ _⟩
      · have mk := make23 n2 (by omega)
        have hsrc : ∀ i, i < n2 → (w1.alloc (.cells (bools (List.replicate n2 false)) 4)).cell? (x.add i) = some (.bool (F2 i)) := fun i hi => (((Keep.refl Non w1).alloc _).cell (p := x.add i) (World.block_lt_of_cell? _ _ (fx i hi)) fun e => e).trans (fx i hi)
        go_wp2_with (refine wpList_copy_all rfl _ _ 23 rfl 4 Try.underlying23 Try.size4 w1.heap.size n2 x c2 rfl rfl (bools (List.replicate n2 false)) (Blk.new _ _ _) (by simp [bools]) (fun i => .bool (F2 i)) hsrc (fun _ => rfl) ?_)
        intro w' hB kB
        go_wp2
        go_meet
        case rel => exact ⟨_, rfl, arr_of_row hB, ((Keep.refl Non w1).alloc _).then kB (by rintro i hi rfl; exact absurd hi (Nat.lt_irrefl _))⟩
    case rest =>
      obtain ⟨b2, rfl, A2, k2⟩ := hcut
      replace s3 := s3.non k2
      replace s4 := s4.non k2
      replace A1 := A1.non k2
      replace k1 := k1.non k2
      clear s2 e2 k2
      generalize wc = w2 at *
      go_upto_if 99 with fail
      go_cut [3] (fun c wx => ∃ a', c = .slice a' n3 n3 ∧ Arr wx a' n3 (fun i => .int .i64 (F3 i)) ∧ Keep Non w2 wx)
      case first => as_aux_lemma =>
        rcases s3 with ⟨rfl, rfl, rfl⟩ | ⟨x, rfl, fx⟩
        · go_wp2
          go_meet
          case rel => exact ⟨none, rfl, .inl rfl, Keep.refl _ _⟩
        · have mk := make24 n3 (by omega)
          have hsrc : ∀ i, i < n3 → (w2.alloc (.cells (ints (List.replicate n3 0)) 2)).cell? (x.add i) = some (.int .i64 (F3 i)) := fun i hi => (((Keep.refl Non w2).alloc _).cell (p := x.add i) (World.block_lt_of_cell? _ _ (fx i hi)) fun e => e).trans (fx i hi)
          go_wp2_with (refine wpList_copy_all rfl _ _ 24 rfl 2 Try.underlying24 Try.size2 w2.heap.size n3 x c3 rfl rfl (ints (List.replicate n3 0)) (Blk.new _ _ _) (by simp [ints]) (fun i => .int .i64 (F3 i)) hsrc (fun _ => rfl) ?_)
          intro w' hB kB
          go_wp2
          go_meet
          case rel => exact ⟨_, rfl, arr_of_row hB, ((Keep.refl Non w2).alloc _).then kB (by rintro i hi rfl; exact absurd hi (Nat.lt_irrefl _))⟩
      case rest =>
        obtain ⟨b3, rfl, A3, k2⟩ := hcut
        replace s4 := s4.non k2
        replace A1 := A1.non k2
        replace A2 := A2.non k2
        replace k1 := k1.non k2
        clear s3 e3 k2
        generalize wc = w3 at *
        go_upto_if 108 with fail
        go_cut [4] (fun c wx => ∃ a', c = .slice a' n4 n4 ∧ Arr wx a' n4 (fun i => .bool (F4 i)) ∧ Keep Non w3 wx)
        case first => as_aux_lemma =>
          rcases s4 with ⟨rfl, rfl, rfl⟩ | ⟨x, rfl, fx⟩
          · go_wp2
            go_meet
            case rel => exact ⟨none, rfl, .inl rfl, Keep.refl _ _⟩
          · have mk := make23 n4 (by omega)
            have hsrc : ∀ i, i < n4 → (w3.alloc (.cells (bools (List.replicate n4 false)) 4)).cell? (x.add i) = some (.bool (F4 i)) := fun i hi => (((Keep.refl Non w3).alloc _).cell (p := x.add i) (World.block_lt_of_cell? _ _ (fx i hi)) fun e => e).trans (fx i hi)
            go_wp2_with (refine wpList_copy_all rfl _ _ 23 rfl 4 Try.underlying23 Try.size4 w3.heap.size n4 x c4 rfl rfl (bools (List.replicate n4 false)) (Blk.new _ _ _) (by simp [bools]) (fun i => .bool (F4 i)) hsrc (fun _ => rfl) ?_)
            intro w' hB kB
            go_wp2
            go_meet
            case rel => exact ⟨_, rfl, arr_of_row hB, ((Keep.refl Non w3).alloc _).then kB (by rintro i hi rfl; exact absurd hi (Nat.lt_irrefl _))⟩
        case rest =>
          obtain ⟨b4, rfl, A4, k2⟩ := hcut
          replace A1 := A1.non k2
          replace A2 := A2.non k2
          replace A3 := A3.non k2
          replace k1 := k1.non k2
          clear s4 e4 k2 w1 w2 w3
          generalize wc = w4 at *
          go_step
          exact law4_mid _ rfl _ _ _ _ _ _ _ _ _ _ _ _ _ _ _ _ _ _ _ _ _ _ _ _ _ _ _ _ _ _ _ _ _ _ _ _ _ _ _ _ _ _ _ _ _ _ _ _ _ _ _ _ _ _ _ _ _ _ _ _ _ _ _ _ _ _ _ _ _ _ _ _ _ _ _ _ _ _ _ _ _ _ _ _ _ _ _ _ _ _ _ _ _ _ _ _ _ _ _ _ _ _ _ _ _ _ _ _ _ _ _ _ _ _ _ _ _ _ _ _ _ _ _ _ _ _ _ _ _ _ _ _ _ _ _ _ _ _ _ _ _ _ _ _ _ _ _ _ _ _ _ _ _ _ _ _ _ _ _ _ _ _ _ _ _ _ _ _ _ _ _ _ _ _ _ _ _ _ _ _ _ _ _ _ _ _ _ _ _ _ _ _ _ _ _ _ _ _ _ _ _ _ _ _ _ _ _ _ _ _ _ _ _ _ _ _ _ _ _ _ _ _ _ _ _ _ _ _ _ _ _ _ _ _ _ _ _ _ _ _ _ _ _ _ _ _ _ _ _ _ _ _ _ _ _ _ _ _ _ _ _ _ _ _ _ _ _ _ _ _ _ _ _ _ _ _ _ _ _ _ _ _ _ _ _ _ _ _ _ _ _ _ _ _ _ _ _ _ _ _ _ _ _ _ _ _ _ _ _ _ _ _ _ _ _ _ _ _ _ _ _ _ _ _ _ _ _ _ _ _ _ _ _ _ _ _ _ _ _ _ _ b b1 b2 b3 b4 n1 n2 n3 n4 F1 F3 F2 F4 qt qw qc qd la lb w w4 (by omega) (by omega) (by omega) (by omega) A1 A2 A3 A4 k1 hb' Hc.out hqc

end Go.Proofs.Qxb6626002a
