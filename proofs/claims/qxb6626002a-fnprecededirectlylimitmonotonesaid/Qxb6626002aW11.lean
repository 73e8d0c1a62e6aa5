import Derived.Test.Qxb6626002aW10
namespace Go.Proofs.Qxb6626002a
open Go.RowKit
set_option linter.unusedVariables false

/-- An operation is in the law's domain. -/
def Dom (N : Int) (p : Pl.Acc) : Prop := 0 ≤ p.tx ∧ p.tx < N ∧ (p.dis = false → 0 ≤ p.cr)

def DomOk (b qt qc : Int) (qd : Bool) (ops : List Pl.Acc) (N : Nat) : Prop := 0 ≤ b ∧ 0 ≤ qt ∧ qt < N ∧ N ≤ 65536 ∧ (qd = false → 0 ≤ qc) ∧ ∀ i, i < ops.length → Dom N (at0 ops i)
def DomPost (b qt qc : Int) (qd : Bool) (ops : List Pl.Acc) (e : Ending) : Prop := ∃ (N : Nat) (ok : Bool), e = .returned (.tuple #[.int .i64 N, .bool ok]) ∧ (ok = true → DomOk b qt qc qd ops N)
theorem DomPost.no (b qt qc : Int) (qd : Bool) (ops : List Pl.Acc) : DomPost b qt qc qd ops (.returned (.tuple #[.int .i64 0, .bool false])) := ⟨0, false, rfl, by simp⟩

theorem ret_dom {a b : Int} {c : Bool} (h : a = b) : Ending.returned (.tuple #[.int .i64 a, .bool c]) = .returned (.tuple #[.int .i64 b, .bool c]) := by rw [h]

set_option maxHeartbeats 1600000 in
theorem dom_any (b : Int) (a1 a3 a4 : Option Addr) (ops : List Pl.Acc) (qt qc : Int) (qd : Bool) (w : World) (h1 : Arr w a1 ops.length (fun i => .int .i64 (at0 ops i).tx)) (h3 : Arr w a3 ops.length (fun i => .int .i64 (at0 ops i).cr)) (h4 : Arr w a4 ops.length (fun i => .bool (at0 ops i).dis))
    (hn : ops.length ≤ 5000) :
    Calls Try.prog 6 #[.int .i64 b, .slice a1 ops.length ops.length, .slice a3 ops.length ops.length, .slice a4 ops.length ops.length, .int .i64 qt, .int .i64 qc, .bool qd] w fun e w' =>
      w' = w ∧ DomPost b qt qc qd ops e := by
  by_cases hb : b < 0
  · go_enter Try.func6, Try.ntmps6
    go_wp2
    go_ret2
    exact ⟨rfl, DomPost.no _ _ _ _ _⟩
  by_cases hq1 : qt < 0
  · go_enter Try.func6, Try.ntmps6
    go_wp2
    go_ret2
    exact ⟨rfl, DomPost.no _ _ _ _ _⟩
  by_cases hq2 : 65536 ≤ qt
  · go_enter Try.func6, Try.ntmps6
    go_wp2
    go_ret2
    exact ⟨rfl, DomPost.no _ _ _ _ _⟩
  by_cases hq3 : qd = false ∧ qc < 0
  · obtain ⟨rfl, hq3⟩ := hq3
    go_enter Try.func6, Try.ntmps6
    go_wp2
    go_ret2
    exact ⟨rfl, DomPost.no _ _ _ _ _⟩
  have hq3' : qd = false → 0 ≤ qc := fun h => by
    have : ¬ qc < 0 := fun h' => hq3 ⟨h, h'⟩
    omega
  have Hq3 : Hid (qd = false → 0 ≤ qc) := hq3'
  clear hq3 hq3'
  go_enter Try.func6, Try.ntmps6
  go_upto_region 5 with fail
  go_cut [31] (fun c wx => c = .bool false ∧ w = wx)
  case first =>
    cases qd
    · have hq0 := Hq3.out rfl
      go_wp2
      go_meet
      case rel => exact ⟨by simp; omega, rfl⟩
    · go_wp2
      go_meet
      case rel => exact ⟨rfl, rfl⟩
  case rest =>
    obtain ⟨rfl, rfl⟩ := hcut
    go_wp2
    go_loop [16, 17] (fun c i => ∃ (k N : Nat), k ≤ ops.length ∧ i = .int .i64 k ∧ c = .int .i64 N ∧ qt < N ∧ N ≤ 65536 ∧ ∀ i, i < k → Dom N (at0 ops i)) (fun _ i => ops.length - (intOf i).toNat)
    case atStart => exact ⟨0, (qt + 1).toNat, Nat.zero_le _, rfl, by go_num, by omega, by omega, fun i hi => by omega⟩
    case round =>
      obtain ⟨k, N, hk, rfl, rfl, hN1, hN2, hD⟩ := hrel
      have HD : Hid (∀ i, i < k → Dom N (at0 ops i)) := hD
      clear hD
      by_cases hlt : k < ops.length
      · rcases h1 with h | ⟨g1, rfl, l1, f1⟩
        · omega
        rcases h3 with h | ⟨g3, rfl, l3, f3⟩
        · omega
        rcases h4 with h | ⟨g4, rfl, l4, f4⟩
        · omega
        have x1 : w.cell? ⟨g1, k, none⟩ = some (.int .i64 (at0 ops k).tx) := f1 k hlt
        have x3 : w.cell? ⟨g3, k, none⟩ = some (.int .i64 (at0 ops k).cr) := f3 k hlt
        have x4 : w.cell? ⟨g4, k, none⟩ = some (.bool (at0 ops k).dis) := f4 k hlt
        have HD' : Hid (∀ N' : Nat, N ≤ N' → Dom N' (at0 ops k) → ∀ i, i < k + 1 → Dom N' (at0 ops i)) := by
          intro N' h hk i hi
          by_cases e : i = k
          · subst e; exact hk
          · have := HD.out i (by omega)
            exact ⟨this.1, by have := this.2.1; omega, this.2.2⟩
        clear HD f1 f3 f4
        generalize at0 ops k = p at *
        obtain ⟨pt, pw, pc, pd⟩ := p
        simp only at x1 x3 x4
        by_cases t1 : pt < 0
        · go_wp2
          go_ret2
          exact ⟨rfl, DomPost.no _ _ _ _ _⟩
        by_cases t2 : 65536 ≤ pt
        · go_wp2
          go_ret2
          exact ⟨rfl, DomPost.no _ _ _ _ _⟩
        cases pd
        · by_cases t3 : pc < 0
          · go_wp2
            go_ret2
            exact ⟨rfl, DomPost.no _ _ _ _ _⟩
          · by_cases t4 : (N : Int) ≤ pt
            · go_wp2
              go_round
              case rel => exact ⟨k + 1, (pt + 1).toNat, by omega, by go_num, by go_num, by omega, by omega, HD'.out _ (by omega) ⟨by simp only; omega, by simp only; omega, fun _ => by simp only; omega⟩⟩
              case measure => simp [intOf]; omega
            · go_wp2
              go_round
              case rel => exact ⟨k + 1, N, by omega, by go_num, rfl, by omega, by omega, HD'.out _ (by omega) ⟨by simp only; omega, by simp only; omega, fun _ => by simp only; omega⟩⟩
              case measure => simp [intOf]; omega
        · by_cases t4 : (N : Int) ≤ pt
          · go_wp2
            go_round
            case rel => exact ⟨k + 1, (pt + 1).toNat, by omega, by go_num, by go_num, by omega, by omega, HD'.out _ (by omega) ⟨by simp only; omega, by simp only; omega, fun h => by simp at h⟩⟩
            case measure => simp [intOf]; omega
          · go_wp2
            go_round
            case rel => exact ⟨k + 1, N, by omega, by go_num, rfl, by omega, by omega, HD'.out _ (by omega) ⟨by simp only; omega, by simp only; omega, fun h => by simp at h⟩⟩
            case measure => simp [intOf]; omega
      · have hke : Hid (k = ops.length) := by show k = ops.length; omega
        clear h1 h3 h4
        go_wp2
        go_ret2
        refine ⟨rfl, N, true, rfl, fun _ => ⟨by omega, by omega, hN1, hN2, Hq3.out, ?_⟩⟩
        rw [← hke.out]
        exact HD.out

end Go.Proofs.Qxb6626002a
