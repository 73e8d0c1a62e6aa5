import Derived.Test.Qxb6626002aW9
namespace Go.Proofs.Qxb6626002a
open Go.RowKit
set_option linter.unusedVariables false

theorem keep4 (w : World) (C : Nat) (a b c d : Value) (i j k l : Nat) : Keep (fun k => k = C) w ((((w.setCell ⟨C, i, none⟩ a).setCell ⟨C, j, none⟩ b).setCell ⟨C, k, none⟩ c).setCell ⟨C, l, none⟩ d) := (keep3 w C a b c i j k).setCell _ _ fun _ => rfl

/-- The four rows out of which operations are built. -/
structure Rows4 (w : World) (a1 a2 a3 a4 : Option Addr) (ops : List Pl.Acc) : Prop where
  h1 : Arr w a1 ops.length (fun i => .int .i64 (at0 ops i).tx)
  h2 : Arr w a2 ops.length (fun i => .bool (at0 ops i).wr)
  h3 : Arr w a3 ops.length (fun i => .int .i64 (at0 ops i).cr)
  h4 : Arr w a4 ops.length (fun i => .bool (at0 ops i).dis)
theorem Rows4.non {w w' : World} {a1 a2 a3 a4 : Option Addr} {ops : List Pl.Acc} (h : Rows4 w a1 a2 a3 a4 ops) (k : Keep Non w w') : Rows4 w' a1 a2 a3 a4 ops := ⟨h.h1.non k, h.h2.non k, h.h3.non k, h.h4.non k⟩

set_option maxHeartbeats 1600000 in
theorem newlog_any (b : Int) (a1 a2 a3 a4 : Option Addr) (ops : List Pl.Acc) (M m cap ntx : Nat) (pcs : Array Value) (w : World) (hR : Rows4 w a1 a2 a3 a4 ops) (hM : Blk w M pcs 3) (hn : ops.length ≤ 5000) (hx : ntx ≤ 100000) :
    Calls Try.prog 8 #[.int .i64 b, .slice a1 ops.length ops.length, .slice a2 ops.length ops.length, .slice a3 ops.length ops.length, .slice a4 ops.length ops.length, .slice (some ⟨M, 0, none⟩) m cap, .int .i64 ntx] w fun e w' =>
      ∃ L T A O, e = .returned (.pointer (some ⟨L, 0, none⟩)) ∧ Log b ops pcs m cap L T A ntx O M (List.replicate ntx 0) 0 w' ∧ w.heap.size ≤ T ∧ w.heap.size ≤ A ∧ Keep Non w w' := by
  have mk := make45 ops.length hn
  have mk2 := fun w => make22 ntx ntx (Nat.le_refl _) hx w
  go_enter Try.func8, Try.ntmps8
  go_wp2
  generalize hO : w.heap.size = O at *
  go_loopw [22] (fun i wr => ∃ k : Nat, k ≤ ops.length ∧ i = .int .i64 k ∧ Blk wr O (accs (filled ops k)) 45 ∧ Keep (fun x => x = O) (w.alloc (.cells (accs (List.replicate ops.length z0)) 45)) wr) (fun i _ => ops.length - (intOf i).toNat)
  case atStart => exact ⟨0, Nat.zero_le _, rfl, by rw [filled_zero]; exact Blk.new' _ _ _ _ hO, Keep.refl _ _⟩
  case round =>
    obtain ⟨k, hk, rfl, hB, kp⟩ := hrel
    have kw : Keep Non w wr := ((Keep.refl Non w).alloc _).then kp (by rintro i hi rfl; omega)
    by_cases hlt : k < ops.length
    · have hR' := hR.non kw
      rcases hR'.h1 with h | ⟨g1, rfl, l1, f1⟩
      · omega
      rcases hR'.h2 with h | ⟨g2, rfl, l2, f2⟩
      · omega
      rcases hR'.h3 with h | ⟨g3, rfl, l3, f3⟩
      · omega
      rcases hR'.h4 with h | ⟨g4, rfl, l4, f4⟩
      · omega
      have x1 : wr.cell? ⟨g1, k, none⟩ = some (.int .i64 (at0 ops k).tx) := f1 k hlt
      have x2 : wr.cell? ⟨g2, k, none⟩ = some (.bool (at0 ops k).wr) := f2 k hlt
      have x3 : wr.cell? ⟨g3, k, none⟩ = some (.int .i64 (at0 ops k).cr) := f3 k hlt
      have x4 : wr.cell? ⟨g4, k, none⟩ = some (.bool (at0 ops k).dis) := f4 k hlt
      have hlt' : (k : Int) < (ops.length : Int) := by omega
      have hfl : (accs (filled ops k)).size = 4 * ops.length := by rw [accs_size, filled_len ops k hk]
      have o0 : (wr.cell? ⟨O, k * 4, none⟩).isSome = true := by rw [hB.cell]; simp; omega
      have o1 : (wr.cell? ⟨O, k * 4 + 1, none⟩).isSome = true := by rw [hB.cell]; simp; omega
      have o2 : (wr.cell? ⟨O, k * 4 + 2, none⟩).isSome = true := by rw [hB.cell]; simp; omega
      have o3 : (wr.cell? ⟨O, k * 4 + 3, none⟩).isSome = true := by rw [hB.cell]; simp; omega
      obtain ⟨v0, o0⟩ := Option.isSome_iff_exists.1 o0
      obtain ⟨v1, o1⟩ := Option.isSome_iff_exists.1 o1
      obtain ⟨v2, o2⟩ := Option.isSome_iff_exists.1 o2
      obtain ⟨v3, o3⟩ := Option.isSome_iff_exists.1 o3
      have z0 := hB.frozen (k * 4)
      have z1 := hB.frozen (k * 4 + 1)
      have z2 := hB.frozen (k * 4 + 2)
      have z3 := hB.frozen (k * 4 + 3)
      have hF := hB.fill hlt
      clear hR' hR f1 f2 f3 f4 hfl hM
      generalize at0 ops k = p at *
      go_wp2
      go_region
      all_goals
        go_wp2
        go_roundw
        case rel => exact ⟨k + 1, by omega, by go_num, hF, (kp.then (keep4 _ _ _ _ _ _ _ _ _ _) fun _ _ e => e).drew⟩
        case measure => simp [intOf]; omega
    · have hke : Hid (k = ops.length) := by show k = ops.length; omega
      clear hR
      go_wp2
      go_ret
      have e : filled ops k = ops := by rw [hke.out, filled_all]
      rw [e] at hB
      have lM := hM.lt
      have lO := hB.lt
      have sz := kw.size
      refine ⟨wr.heap.size + 1 + 1, wr.heap.size + 1, wr.heap.size, O, rfl, ⟨Blk.new' _ _ _ _ (by simp), (Blk.new' _ _ _ _ (by simp)).alloc _, ((Blk.new _ _ _).alloc _).alloc _, ((hB.alloc _).alloc _).alloc _, (((hM.non kw).alloc _).alloc _).alloc _, by omega, by omega, by omega, by omega⟩, by omega, by omega, ((kw.alloc _).alloc _).alloc _⟩

/-- The places of the writes among the first k operations. -/
def wplaces (ops : List Pl.Acc) (k : Nat) : List Int := ((List.range k).filter fun i => (at0 ops i).wr).map fun i : Nat => (i : Int)
theorem wplaces_succ (ops : List Pl.Acc) (k : Nat) : wplaces ops (k + 1) = wplaces ops k ++ if (at0 ops k).wr then [(k : Int)] else [] := by
  unfold wplaces
  rw [List.range_succ, List.filter_append, List.map_append]
  cases h : (at0 ops k).wr <;> simp [h]
theorem wplaces_len (ops : List Pl.Acc) (k : Nat) : (wplaces ops k).length ≤ k := by
  unfold wplaces
  rw [List.length_map]
  exact Nat.le_trans (List.length_filter_le _ _) (by simp)

/-- What is owned, as a block. -/
theorem Own.blk {w : World} {base M n cap : Nat} {xs : List Int} (h : Own w base (.slice (some ⟨M, 0, none⟩) n cap) xs) (hn : n = xs.length) : ∃ pcs : Array Value, Blk w M pcs 3 ∧ ∀ j, j < xs.length → pcs[j]? = some (.int .i64 (xs.getD j 0)) := by
  obtain ⟨h1, h2⟩ := h
  rcases h2 with ⟨h2, _⟩ | ⟨g, cap', cur, hv, hg, hh, r1, r2, r3, r4⟩
  · cases h2
  · simp only [Value.slice.injEq, Option.some.injEq, Addr.mk.injEq] at hv
    obtain ⟨⟨rfl, _⟩, _, _⟩ := hv
    refine ⟨cur, hh, fun j hj => ?_⟩
    have e : (cur.toList.take (xs.length * 1))[j]? = cur[j]? := by rw [List.getElem?_take_of_lt (by omega)]; simp
    rw [← e, r4]
    simp [hj]

set_option maxHeartbeats 1600000 in
theorem zops_any (a1 a2 a3 a4 : Option Addr) (ops : List Pl.Acc) (w : World) (hR : Rows4 w a1 a2 a3 a4 ops) (hn : ops.length ≤ 5000) :
    Calls Try.prog 7 #[.slice a1 ops.length ops.length, .slice a2 ops.length ops.length, .slice a3 ops.length ops.length, .slice a4 ops.length ops.length] w fun e w' =>
      ∃ O M pcs, e = .returned (.tuple #[.slice (some ⟨O, 0, none⟩) ops.length ops.length, .slice (some ⟨M, 0, none⟩) (wplaces ops ops.length).length ops.length]) ∧
        Blk w' O (accs ops) 32 ∧ Blk w' M pcs 3 ∧ (∀ j, j < (wplaces ops ops.length).length → pcs[j]? = some (.int .i64 ((wplaces ops ops.length).getD j 0))) ∧ Keep Non w w' := by
  obtain ⟨i0, hi, hz0, hz1, hz2⟩ := info_parts Try.info3
  have mk := make32 ops.length hn
  have mk2 : ∀ w : World, (Instr.makeSlice 22 (.int .i64 0) (.int .i64 ops.length)).run Try.prog w = .ok (.slice (some ⟨w.heap.size, 0, none⟩) 0 ops.length) (w.alloc (.cells (ints (List.replicate ops.length 0)) 3)) := fun w => make22 0 ops.length (Nat.zero_le _) (by omega) w
  go_enter Try.func7, Try.ntmps7
  go_wp2
  generalize hO : w.heap.size = O at *
  go_loopw [11, 12] (fun v i wr => ∃ k : Nat, k ≤ ops.length ∧ i = .int .i64 k ∧ v = .slice (some ⟨O + 1, 0, none⟩) (wplaces ops k).length ops.length ∧ Blk wr O (accs (filled ops k)) 32 ∧ Own wr (O + 1) (.slice (some ⟨O + 1, 0, none⟩) (wplaces ops k).length ops.length) (wplaces ops k) ∧ Keep (fun x => x = O ∨ x = O + 1) w wr) (fun _ i _ => ops.length - (intOf i).toNat)
  case atStart => 
    refine ⟨0, Nat.zero_le _, rfl, rfl, by rw [filled_zero]; exact (Blk.new' _ _ _ _ hO).alloc _, ?_, ((Keep.refl _ _).alloc _).alloc _⟩
    have := World.ownsRow_made (base := O + 1) (e := 3) (size := 1) (w.alloc (.cells (accs (List.replicate ops.length z0)) 32)) (ints (List.replicate ops.length 0)) ops.length (by simp; omega) (by unfold maxLen; omega) (by simp [ints])
    simpa [Own, wplaces, hO] using this
  case round =>
    obtain ⟨k, hk, rfl, rfl, hB, hW, kp⟩ := hrel
    have kw : Keep Non w wr := kp.mono (by rintro i hi (h | h) <;> omega)
    by_cases hlt : k < ops.length
    · have hR' := hR.non kw
      rcases hR'.h1 with h | ⟨g1, rfl, l1, f1⟩
      · omega
      rcases hR'.h2 with h | ⟨g2, rfl, l2, f2⟩
      · omega
      rcases hR'.h3 with h | ⟨g3, rfl, l3, f3⟩
      · omega
      rcases hR'.h4 with h | ⟨g4, rfl, l4, f4⟩
      · omega
      have x1 : wr.cell? ⟨g1, k, none⟩ = some (.int .i64 (at0 ops k).tx) := f1 k hlt
      have x2 : wr.cell? ⟨g2, k, none⟩ = some (.bool (at0 ops k).wr) := f2 k hlt
      have x3 : wr.cell? ⟨g3, k, none⟩ = some (.int .i64 (at0 ops k).cr) := f3 k hlt
      have x4 : wr.cell? ⟨g4, k, none⟩ = some (.bool (at0 ops k).dis) := f4 k hlt
      have ng2 : g2 ≠ O := by
        rcases hR.h2 with h | ⟨g, e, l, _⟩
        · omega
        · simp at e; omega
      have hlt' : (k : Int) < (ops.length : Int) := by omega
      have Hwp : Hid (wplaces ops (k + 1) = wplaces ops k ++ if (at0 ops k).wr then [(k : Int)] else []) := wplaces_succ ops k
      have hwl := wplaces_len ops k
      clear hR' hR f1 f2 f3 f4
      go_upto_region 6 with fail
      go_cut [] (fun wx => Blk wx O (accs (filled ops (k + 1))) 32 ∧ Keep (fun x => x = O) wr wx)
      case first =>
        have hfl : (accs (filled ops k)).size = 4 * ops.length := by rw [accs_size, filled_len ops k hk]
        have o0 : (wr.cell? ⟨O, k * 4, none⟩).isSome = true := by rw [hB.cell]; simp; omega
        have o1 : (wr.cell? ⟨O, k * 4 + 1, none⟩).isSome = true := by rw [hB.cell]; simp; omega
        have o2 : (wr.cell? ⟨O, k * 4 + 2, none⟩).isSome = true := by rw [hB.cell]; simp; omega
        have o3 : (wr.cell? ⟨O, k * 4 + 3, none⟩).isSome = true := by rw [hB.cell]; simp; omega
        obtain ⟨v0, o0⟩ := Option.isSome_iff_exists.1 o0
        obtain ⟨v1, o1⟩ := Option.isSome_iff_exists.1 o1
        obtain ⟨v2, o2⟩ := Option.isSome_iff_exists.1 o2
        obtain ⟨v3, o3⟩ := Option.isSome_iff_exists.1 o3
        have z0 := hB.frozen (k * 4)
        have z1 := hB.frozen (k * 4 + 1)
        have z2 := hB.frozen (k * 4 + 2)
        have z3 := hB.frozen (k * 4 + 3)
        have hF := hB.fill hlt
        clear hfl
        generalize at0 ops k = p at *
        go_region
        all_goals
          go_wp2
          go_meet
          case rel => exact ⟨hF, (keep4 _ _ _ _ _ _ _ _ _ _).drew⟩
      case rest =>
        obtain ⟨hB', kc⟩ := hcut
        have y2 : wc.cell? ⟨g2, k, none⟩ = some (.bool (at0 ops k).wr) := (kc.cell (p := ⟨g2, k, none⟩) l2 ng2).trans x2
        have hW' : Own wc (O + 1) (.slice (some ⟨O + 1, 0, none⟩) (wplaces ops k).length ops.length) (wplaces ops k) := hW.keep kc (by intro b hb e; simp [Value.ownBlock] at hb; omega)
        have kc' : Keep (fun x => x = O ∨ x = O + 1) w wc := kp.then kc fun _ _ e => .inl e
        have szc : O + 2 ≤ wc.heap.size := by
          have := hW'.lt (O + 1) rfl
          omega
        clear x1 x2 x3 x4 hB hW kp kw kc
        cases hwk : (at0 ops k).wr
        · have Hwp' : Hid (wplaces ops (k + 1) = wplaces ops k) := by show wplaces ops (k + 1) = wplaces ops k; have := Hwp.out; rw [hwk] at this; simpa using this
          rw [hwk] at y2
          clear Hwp hwk
          go_wp2
          go_roundw
          case rel => exact ⟨k + 1, by omega, by go_num, by rw [Hwp'.out], hB', by rw [Hwp'.out]; exact hW', kc'⟩
          case measure => simp [intOf]; omega
        · have Hwp' : Hid (wplaces ops (k + 1) = wplaces ops k ++ [(k : Int)]) := by show wplaces ops (k + 1) = wplaces ops k ++ [(k : Int)]; have := Hwp.out; rw [hwk] at this; simpa using this
          rw [hwk] at y2
          clear Hwp hwk
          go_wp2_with (at_builtin; refine wpList_append_fits _ rfl _ _ 22 rfl (O + 1) 3 i0 1 Try.underlying22 hi hz1 (O + 1) (wplaces ops k).length ops.length ((wplaces ops k).map (Value.int .i64)) rfl (hW'.alloc _) ⟨wc.heap.size, 0, none⟩ 1 1 [.int .i64 k] rfl rfl (World.news_of_block (Blk.new' _ #[.int .i64 k] 3 _ rfl)) (by simp [Value.oneCell']) (by omega) ?_)
          intro w2 hown hgrow
          have k2 := Keep.of_grown hgrow
          have hB2 : Blk w2 O (accs (filled ops (k + 1))) 32 := (hB'.alloc _).keep k2 (by simp)
          have hW2 : Own w2 (O + 1) (.slice (some ⟨O + 1, 0, none⟩) ((wplaces ops k).length + 1) ops.length) (wplaces ops k ++ [(k : Int)]) := by simpa [Own] using hown
          have kk : Keep (fun x => x = O ∨ x = O + 1) w w2 := (kc'.alloc _).then k2 (by intro i hi e; simp at e; exact .inr e)
          clear hown hgrow k2 hW' kc' hB' y2
          go_wp2
          go_roundw
          case rel => exact ⟨k + 1, by omega, by go_num, by rw [Hwp'.out]; simp, hB2, by rw [Hwp'.out]; simpa using hW2, kk⟩
          case measure => simp [intOf]; omega
    · have hke : Hid (k = ops.length) := by show k = ops.length; omega
      clear hR
      go_wp2
      go_ret2
      have e := hke.out
      subst e
      rw [filled_all] at hB
      obtain ⟨pcs, hP, hj⟩ := hW.blk rfl
      exact ⟨O, O + 1, pcs, rfl, hB, hP, hj, kw⟩

end Go.Proofs.Qxb6626002a
