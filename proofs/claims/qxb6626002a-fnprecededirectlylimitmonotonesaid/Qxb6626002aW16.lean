import Derived.Test.Qxb6626002aW14
import Derived.Test.Qxb6626002aPlain5
namespace Go.Proofs.Qxb6626002a
open Go.RowKit
set_option linter.unusedVariables false

set_option maxHeartbeats 800000 in
theorem allare_any (a : Option Addr) (n c : Nat) (v : Int) (w : World) (h : Arr w a n (fun _ => .int .i64 v)) (hn : n ≤ 10000) :
    Calls Try.prog 13 #[.slice a n c, .int .i64 v] w fun e w' => e = .returned (.bool true) ∧ Keep Non w w' := by
  go_enter Try.func13, Try.ntmps13
  go_wp2
  go_loop [5] (fun i => ∃ k : Nat, k ≤ n ∧ i = .int .i64 k) (fun i => n - (intOf i).toNat)
  case atStart => exact ⟨0, Nat.zero_le _, rfl⟩
  case round =>
    obtain ⟨k, hk, rfl⟩ := hrel
    by_cases hlt : k < n
    · rcases h with h | ⟨g, rfl, l, f⟩
      · omega
      have x : w.cell? ⟨g, k, none⟩ = some (.int .i64 v) := f k hlt
      have hlt' : (k : Int) < (n : Int) := by omega
      go_wp2
      go_round
      case rel => exact ⟨k + 1, by omega, by go_num⟩
      case measure => simp [intOf]; omega
    · go_wp2
      go_ret
      exact ⟨rfl, Keep.refl _ _⟩

set_option maxHeartbeats 800000 in
theorem prefix_any (a1 a2 : Option Addr) (xs ys : List Int) (c1 c2 : Nat) (w : World) (h1 : Arr w a1 xs.length (fun i => .int .i64 (xs.getD i 0))) (h2 : Arr w a2 ys.length (fun i => .int .i64 (ys.getD i 0))) (hp : xs <+: ys) (hn : ys.length ≤ 10000) :
    Calls Try.prog 14 #[.slice a1 xs.length c1, .slice a2 ys.length c2] w fun e w' => e = .returned (.bool true) ∧ Keep Non w w' := by
  have hle := hp.length_le
  have Hp : Hid (∀ k, k < xs.length → ys.getD k 0 = xs.getD k 0) := by
    intro k hk
    obtain ⟨t, rfl⟩ := hp
    simp [List.getElem?_append_left hk]
  clear hp
  go_enter Try.func14, Try.ntmps14
  go_wp2
  go_loopw [5] (fun i wr => ∃ k : Nat, k ≤ xs.length ∧ i = .int .i64 k ∧ Keep Non w wr) (fun i _ => xs.length - (intOf i).toNat)
  case atStart => exact ⟨0, Nat.zero_le _, rfl, Keep.refl _ _⟩
  case round =>
    obtain ⟨k, hk, rfl, kr⟩ := hrel
    by_cases hlt : k < xs.length
    · rcases h1.non kr with h | ⟨g1, rfl, l1, f1⟩
      · omega
      rcases h2.non kr with h | ⟨g2, rfl, l2, f2⟩
      · omega
      have x1 : wr.cell? ⟨g1, k, none⟩ = some (.int .i64 (xs.getD k 0)) := f1 k hlt
      have x2 : wr.cell? ⟨g2, k, none⟩ = some (.int .i64 (xs.getD k 0)) := (f2 k (by omega)).trans (by simp only; rw [Hp.out k hlt])
      have hlt' : (k : Int) < (xs.length : Int) := by omega
      have hlt2 : (k : Int) < (ys.length : Int) := by omega
      clear h1 h2 f1 f2 Hp
      generalize xs.getD k 0 = y at *
      go_wp2
      go_quiet (fail)
      go_wp2
      go_roundw
      case rel => exact ⟨k + 1, by omega, by go_num, kr.drewN _⟩
      case measure => simp [intOf]; omega
    · go_wp2
      go_ret
      exact ⟨rfl, kr⟩

set_option maxHeartbeats 800000 in
theorem same_any (a1 a2 : Option Addr) (xs : List Int) (c1 c2 : Nat) (w : World) (h1 : Arr w a1 xs.length (fun i => .int .i64 (xs.getD i 0))) (h2 : Arr w a2 xs.length (fun i => .int .i64 (xs.getD i 0))) (hn : xs.length ≤ 10000) :
    Calls Try.prog 15 #[.slice a1 xs.length c1, .slice a2 xs.length c2] w fun e w' => e = .returned (.bool true) ∧ Keep Non w w' := by
  go_enter Try.func15, Try.ntmps15
  go_wp2
  go_loopw [5] (fun i wr => ∃ k : Nat, k ≤ xs.length ∧ i = .int .i64 k ∧ Keep Non w wr) (fun i _ => xs.length - (intOf i).toNat)
  case atStart => exact ⟨0, Nat.zero_le _, rfl, Keep.refl _ _⟩
  case round =>
    obtain ⟨k, hk, rfl, kr⟩ := hrel
    by_cases hlt : k < xs.length
    · rcases h1.non kr with h | ⟨g1, rfl, l1, f1⟩
      · omega
      rcases h2.non kr with h | ⟨g2, rfl, l2, f2⟩
      · omega
      have x1 : wr.cell? ⟨g1, k, none⟩ = some (.int .i64 (xs.getD k 0)) := f1 k hlt
      have x2 : wr.cell? ⟨g2, k, none⟩ = some (.int .i64 (xs.getD k 0)) := f2 k hlt
      have hlt' : (k : Int) < (xs.length : Int) := by omega
      clear h1 h2 f1 f2
      generalize xs.getD k 0 = y at *
      go_wp2
      go_quiet (fail)
      go_wp2
      go_roundw
      case rel => exact ⟨k + 1, by omega, by go_num, kr.drewN _⟩
      case measure => simp [intOf]; omega
    · go_wp2
      go_ret
      exact ⟨rfl, kr⟩

theorem own_far {w : World} {base : Nat} {v : Value} {xs : List Int} (h : Own w base v xs) : ∃ a c, v = .slice a xs.length c ∧ Arr w a xs.length (fun i => .int .i64 (xs.getD i 0)) ∧ ∀ g, a = some ⟨g, 0, none⟩ → base ≤ g := by
  obtain ⟨h1, h2⟩ := h
  rcases h2 with ⟨rfl, h2⟩ | ⟨g, cap, cur, rfl, hb, hh, r1, r2, r3, r4⟩
  · exact ⟨none, 0, by rw [h2], .inl h2, fun g h => by cases h⟩
  · refine ⟨_, _, rfl, .inr ⟨g, rfl, (Array.getElem?_eq_some_iff.1 hh).1, fun i hi => ?_⟩, fun g' h => by simp at h; omega⟩
    rw [cell_of_row w g i cur 3 (0, 0) hh]
    have e : (cur.toList.take (xs.length * 1))[i]? = cur[i]? := by rw [List.getElem?_take_of_lt (by omega)]; simp
    rw [← e, r4]
    simp [hi]

/-- What a call of ZZprecedeDirectly has handed out stays, whatever later calls on the same log write. -/
def Stay (T A : Nat) (w : World) (a a2 : Option Addr) (fr : List Int) (q : Int) : Prop :=
  ∀ w', Keep (fun k => k = T ∨ k = A) w w' → Arr w' a fr.length (fun i => .int .i64 (fr.getD i 0)) ∧ Arr w' a2 fr.length (fun _ => .int .i64 q)
theorem Stay.later {T A : Nat} {w w' : World} {a a2 : Option Addr} {fr : List Int} {q : Int} (h : Stay T A w a a2 fr q) (k : Keep (fun k => k = T ∨ k = A) w w') : Stay T A w' a a2 fr q := fun w'' k' => h w'' (k.trans k')

theorem zp_stay (b : Int) (qt : Nat) (qw : Bool) (qc : Int) (qd : Bool) (lim r : Int) (ops : List Pl.Acc) (L T A N O M : Nat) (w : World) (hG : GoodLog b ops L T A N O M r w)
    (hr : 0 ≤ r) (hr' : r < 1000) (hn : ops.length ≤ 5000) (hb : 0 ≤ b) (hb' : b ≤ 9223372036854775807)
    (hok : ∀ p ∈ ops, Pl.Acc.ok p ∧ 0 ≤ p.tx ∧ p.tx < N) (hq : Pl.Acc.ok ⟨qt, qw, qc, qd⟩) :
    Calls Try.prog 9 #[.pointer (some ⟨L, 0, none⟩), .int .i64 qt, .bool qw, .int .i64 qc, .bool qd, .int .i64 lim] w fun e w' =>
      ∃ (a a2 : Option Addr) (c c2 : Nat), e = .returned (.tuple #[.bool (Pl.foundL b ⟨qt, qw, qc, qd⟩ (ops.filter (Pl.wk ⟨qt, qw, qc, qd⟩)) lim),
          .slice a (Pl.fromL b ⟨qt, qw, qc, qd⟩ (ops.filter (Pl.wk ⟨qt, qw, qc, qd⟩)) lim).length c, .slice a2 (Pl.fromL b ⟨qt, qw, qc, qd⟩ (ops.filter (Pl.wk ⟨qt, qw, qc, qd⟩)) lim).length c2]) ∧
        Stay T A w' a a2 (Pl.fromL b ⟨qt, qw, qc, qd⟩ (ops.filter (Pl.wk ⟨qt, qw, qc, qd⟩)) lim) qt ∧ GoodLog b ops L T A N O M (r + 1) w' ∧ Keep (fun k => k = T ∨ k = A) w w' := by
  have lt : T < w.heap.size ∧ A < w.heap.size := by
    obtain ⟨pcs, zs, hlog, _⟩ := hG.ex
    exact ⟨hlog.hT.lt, hlog.hA.lt⟩
  refine (zp_any b qt qw qc qd lim r ops L T A N O M w hG hr hr' hn hb hb' hok hq).mono ?_
  rintro e w' ⟨v, u, rfl, hv, hu, hG', hk⟩
  obtain ⟨a, c, rfl, hA, fa⟩ := own_far hv
  obtain ⟨a2, c2, rfl, hA2, fa2⟩ := own_far hu
  rw [List.length_replicate] at hA2 ⊢
  refine ⟨a, a2, c, c2, rfl, fun w'' k' => ⟨hA.keep k' fun g hg => by have := fa g hg; omega, (hA2.congr fun i hi => by simp [hi]).keep k' fun g hg => by have := fa2 g hg; omega⟩, hG', hk⟩

end Go.Proofs.Qxb6626002a
