import Derived.Test.Qxb6626002aW7
namespace Go.Proofs.Qxb6626002a
open Go.RowKit
set_option linter.unusedVariables false

/-- What a call of ZZprecedeDirectly hands back: found, and the transactions that were named; j: the place at which the walk stopped. -/
def Stops (b : Int) (q : Pl.Acc) (r lim : Int) (V : List Pl.Acc) (zs : List Int) (j : Nat) : Prop :=
  j ≤ V.length ∧ (j = 0 ∨ Pl.carryAll b (Pl.stJ b q r V zs j).c = true ∨ lim < (V.length : Int) - j + 1) ∧
    ∀ j', j < j' → j' ≤ V.length → Pl.carryAll b (Pl.stJ b q r V zs j').c = false ∧ (V.length : Int) - j' + 1 ≤ lim

/-- The log in memory: L the objectLog, T its txSet, A the rounds, O the operations, M the places of the writes. -/
structure Log (b : Int) (ops : List Pl.Acc) (pcs : Array Value) (m cap : Nat) (L T A N O M : Nat) (zs : List Int) (r : Int) (w : World) : Prop where
  hL : Blk w L (logC b O ops.length (.slice (some ⟨M, 0, none⟩) m cap) T) 50
  hT : Blk w T (setC A N r) 48
  hA : Blk w A (ints zs) 3
  hO : Blk w O (accs ops) 45
  hM : Blk w M pcs 3
  tA : T ≠ A
  lx : L ≠ T ∧ L ≠ A
  ox : O ≠ T ∧ O ≠ A
  mx : M ≠ T ∧ M ≠ A

theorem Log.non {b : Int} {ops : List Pl.Acc} {pcs : Array Value} {m cap L T A N O M : Nat} {zs : List Int} {r : Int} {w w' : World} (h : Log b ops pcs m cap L T A N O M zs r w) (k : Keep Non w w') : Log b ops pcs m cap L T A N O M zs r w' :=
  ⟨h.hL.non k, h.hT.non k, h.hA.non k, h.hO.non k, h.hM.non k, h.tA, h.lx, h.ox, h.mx⟩

set_option maxHeartbeats 800000 in
theorem zprec_any (b : Int) (qt : Nat) (qw : Bool) (qc : Int) (qd : Bool) (lim r : Int) (V ops : List Pl.Acc) (zs : List Int) (pcs : Array Value) (L T A N O M cap m : Nat) (w : World)
    (hlog : Log b ops pcs m cap L T A N O M zs r w)
    (hr : 0 ≤ r) (hr' : r < 1000) (hn : ops.length ≤ 5000) (hb : 0 ≤ b) (hb' : b ≤ 9223372036854775807) (hzs : zs.length = N)
    (hVok : ∀ p ∈ V, Pl.Acc.ok p ∧ 0 ≤ p.tx ∧ p.tx < N) (hq : Pl.Acc.ok ⟨qt, qw, qc, qd⟩)
    (hVn : V.length ≤ ops.length) (hV1 : qw = true → V = ops) (hV0 : qw = false → m = V.length ∧ ∀ j (h : j < V.length), ∃ i : Nat, ∃ h' : i < ops.length, pcs[j]? = some (.int .i64 i) ∧ V[j] = ops[i]) :
    Calls Try.prog 9 #[.pointer (some ⟨L, 0, none⟩), .int .i64 qt, .bool qw, .int .i64 qc, .bool qd, .int .i64 lim] w fun e w' =>
      ∃ (j : Nat) (v u : Value), Stops b ⟨qt, qw, qc, qd⟩ (r + 1) lim V zs j ∧
        e = .returned (.tuple #[.bool (decide (j = 0) || Pl.carryAll b (Pl.stJ b ⟨qt, qw, qc, qd⟩ (r + 1) V zs j).c), v, u]) ∧
        Own w' w.heap.size v (Pl.stJ b ⟨qt, qw, qc, qd⟩ (r + 1) V zs j).fs ∧ Own w' w.heap.size u (List.replicate (Pl.stJ b ⟨qt, qw, qc, qd⟩ (r + 1) V zs j).fs.length qt) ∧
        Log b ops pcs m cap L T A N O M (Pl.stJ b ⟨qt, qw, qc, qd⟩ (r + 1) V zs j).zs (r + 1) w' ∧ Keep (fun k => k = T ∨ k = A) w w' := by
  have lL := hlog.hL.lt
  have lT := hlog.hT.lt
  have lA := hlog.hA.lt
  have lO := hlog.hO.lt
  have lM := hlog.hM.lt
  have HV1 : Hid (qw = true → V = ops) := hV1
  have HV0 : Hid (qw = false → m = V.length ∧ ∀ j (h : j < V.length), ∃ i : Nat, ∃ h' : i < ops.length, pcs[j]? = some (.int .i64 i) ∧ V[j] = ops[i]) := hV0
  have HVok : Hid (∀ p ∈ V, Pl.Acc.ok p ∧ 0 ≤ p.tx ∧ p.tx < N) := hVok
  have Hzs : Hid (zs.length = N) := hzs
  clear hV1 hV0 hVok hzs
  go_enter Try.func9, Try.ntmps9
  go_wp2_with fail
  refine (prec_any b qt qw qc qd lim r V ops zs pcs L T A N O M w.heap.size (w.heap.size + 1) cap m _ ((hlog.hL.alloc _).alloc _) ((hlog.hT.alloc _).alloc _) ((hlog.hA.alloc _).alloc _) ((hlog.hO.alloc _).alloc _) ((hlog.hM.alloc _).alloc _)
    ((Blk.new _ _ _).alloc _) (Blk.new' _ _ _ _ (by simp)) ?_ hr hr' hn hb hb' Hzs.out HVok.out hq hVn HV1.out HV0.out).mono ?_
  · have h1 := hlog.tA
    have h2 := hlog.lx
    have h3 := hlog.ox
    have h4 := hlog.mx
    constructor <;> simp <;> omega
  rintro e w1 ⟨j, v, u, C, Q, hwC, hj, I, hcond, rfl⟩
  have cF : w1.cell? ⟨w.heap.size, 0, none⟩ = some v := I.hF.cell 0
  have cG : w1.cell? ⟨w.heap.size + 1, 0, none⟩ = some u := I.hG.cell 0
  have k0 : Keep Non w ((w.alloc (.cells #[.slice none 0 0] 22)).alloc (.cells #[.slice none 0 0] 22)) := ((Keep.refl _ w).alloc _).alloc _
  have k1 : Keep (fun k => k = T ∨ k = A) w w1 := (Keep.of_non k0).then I.keep (by
    rintro i hi (h | h | h | h)
    · exact .inl h
    · exact .inr h
    · simp only at h; omega
    · simp only at h; omega)
  have hst : Stops b ⟨qt, qw, qc, qd⟩ (r + 1) lim V zs j := ⟨hj, hcond, I.went⟩
  have hl1 : Log b ops pcs m cap L T A N O M (Pl.stJ b ⟨qt, qw, qc, qd⟩ (r + 1) V zs j).zs (r + 1) w1 := ⟨I.hL, I.hT, I.hA, I.hO, I.hM, hlog.tA, hlog.lx, hlog.ox, hlog.mx⟩
  have own_mono : ∀ (x : Value) (xs : List Int), Own w1 (C + 1) x xs → Own w1 w.heap.size x xs := by
    rintro x xs ⟨h1, h2⟩
    refine ⟨h1, ?_⟩
    rcases h2 with h2 | ⟨g, cap, cur, a1, a2, a3⟩
    · exact .inl h2
    · exact .inr ⟨g, cap, cur, a1, by simp at hwC; omega, a3⟩
  have hv := own_mono _ _ I.hv
  have hu := own_mono _ _ I.hu
  clear I own_mono k0 hj hcond
  go_wp2
  go_quiet (fail)
  go_wp2
  go_ret3
  exact ⟨j, v, u, hst, rfl, hv, hu, hl1.non ((Keep.refl _ _).drewN _), k1.drewN _⟩

end Go.Proofs.Qxb6626002a
