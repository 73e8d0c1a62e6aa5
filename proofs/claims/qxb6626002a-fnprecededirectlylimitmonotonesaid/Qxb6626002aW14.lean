import Derived.Test.Qxb6626002aW13
import Derived.Test.Qxb6626002aPlain4
import Derived.Laws.CopyOwn
namespace Go.Proofs.Qxb6626002a
open Go.RowKit
set_option linter.unusedVariables false

theorem ops_range (ops : List Pl.Acc) : (List.range ops.length).map (at0 ops) = ops := by
  apply List.ext_getElem
  · simp
  · intro i h1 h2
    simp [at0, h2]

theorem filter_writes (ops : List Pl.Acc) (q : Pl.Acc) (hq : q.wr = false) : ops.filter (Pl.wk q) = ((List.range ops.length).filter fun i => (at0 ops i).wr).map (at0 ops) := by
  conv => lhs; rw [← ops_range ops]
  rw [List.filter_map]
  congr 1
  apply List.filter_congr
  intro i _
  simp [Pl.wk, hq]

theorem filter_all (ops : List Pl.Acc) (q : Pl.Acc) (hq : q.wr = true) : ops.filter (Pl.wk q) = ops := by
  rw [List.filter_eq_self]
  intro p _
  simp [Pl.wk, hq]

theorem wplaces_V (ops : List Pl.Acc) (q : Pl.Acc) (hq : q.wr = false) (pcs : Array Value) (hp : ∀ j, j < (wplaces ops ops.length).length → pcs[j]? = some (.int .i64 ((wplaces ops ops.length).getD j 0))) :
    (wplaces ops ops.length).length = (ops.filter (Pl.wk q)).length ∧ ∀ j (h : j < (ops.filter (Pl.wk q)).length), ∃ i : Nat, ∃ h' : i < ops.length, pcs[j]? = some (.int .i64 i) ∧ (ops.filter (Pl.wk q))[j] = ops[i] := by
  have e := filter_writes ops q hq
  have hl : (wplaces ops ops.length).length = (ops.filter (Pl.wk q)).length := by rw [e]; simp [wplaces]
  refine ⟨hl, fun j h => ?_⟩
  have h' : j < ((List.range ops.length).filter fun i => (at0 ops i).wr).length := by rw [e] at h; simpa using h
  have hm := List.getElem_mem h'
  have hi : ((List.range ops.length).filter fun i => (at0 ops i).wr)[j] < ops.length := by
    have := (List.mem_filter.1 hm).1
    simpa using this
  refine ⟨_, hi, ?_, ?_⟩
  · rw [hp j (by omega)]
    simp [wplaces, h']
  · have : (ops.filter (Pl.wk q))[j]? = some (at0 ops (((List.range ops.length).filter fun i => (at0 ops i).wr)[j])) := by
      rw [e, List.getElem?_map, List.getElem?_eq_getElem h']
      rfl
    rw [List.getElem?_eq_getElem h] at this
    rw [← at0_eq ops _ hi]
    exact Option.some.inj this

/-- What the walks ask of a log: it was made of ops by zzOps and ZZnewObjectLog. -/
structure GoodLog (b : Int) (ops : List Pl.Acc) (L T A N O M : Nat) (r : Int) (w : World) : Prop where
  ex : ∃ (pcs : Array Value) (zs : List Int), Log b ops pcs (wplaces ops ops.length).length ops.length L T A N O M zs r w ∧ zs.length = N ∧ (∀ z ∈ zs, z < r + 1) ∧
    ∀ j, j < (wplaces ops ops.length).length → pcs[j]? = some (.int .i64 ((wplaces ops ops.length).getD j 0))

theorem zp_any (b : Int) (qt : Nat) (qw : Bool) (qc : Int) (qd : Bool) (lim r : Int) (ops : List Pl.Acc) (L T A N O M : Nat) (w : World) (hG : GoodLog b ops L T A N O M r w)
    (hr : 0 ≤ r) (hr' : r < 1000) (hn : ops.length ≤ 5000) (hb : 0 ≤ b) (hb' : b ≤ 9223372036854775807)
    (hok : ∀ p ∈ ops, Pl.Acc.ok p ∧ 0 ≤ p.tx ∧ p.tx < N) (hq : Pl.Acc.ok ⟨qt, qw, qc, qd⟩) :
    Calls Try.prog 9 #[.pointer (some ⟨L, 0, none⟩), .int .i64 qt, .bool qw, .int .i64 qc, .bool qd, .int .i64 lim] w fun e w' =>
      ∃ (v u : Value), e = .returned (.tuple #[.bool (Pl.foundL b ⟨qt, qw, qc, qd⟩ (ops.filter (Pl.wk ⟨qt, qw, qc, qd⟩)) lim), v, u]) ∧
        Own w' w.heap.size v (Pl.fromL b ⟨qt, qw, qc, qd⟩ (ops.filter (Pl.wk ⟨qt, qw, qc, qd⟩)) lim) ∧
        Own w' w.heap.size u (List.replicate (Pl.fromL b ⟨qt, qw, qc, qd⟩ (ops.filter (Pl.wk ⟨qt, qw, qc, qd⟩)) lim).length qt) ∧
        GoodLog b ops L T A N O M (r + 1) w' ∧ Keep (fun k => k = T ∨ k = A) w w' := by
  obtain ⟨pcs, zs, hlog, hzl, hzr, hpc⟩ := hG.ex
  have hVok : ∀ p ∈ ops.filter (Pl.wk ⟨qt, qw, qc, qd⟩), Pl.Acc.ok p ∧ 0 ≤ p.tx ∧ p.tx < N := fun p hp => hok p (List.mem_filter.1 hp).1
  refine (zprec_any b qt qw qc qd lim r (ops.filter (Pl.wk ⟨qt, qw, qc, qd⟩)) ops zs pcs L T A N O M ops.length (wplaces ops ops.length).length w hlog hr hr' hn hb hb' hzl hVok hq (List.length_filter_le _ _)
    (fun h => filter_all ops _ h) (fun h => wplaces_V ops _ h pcs hpc)).mono ?_
  rintro e w' ⟨j, v, u, ⟨s1, s2, s3⟩, rfl, hv, hu, hl, hk⟩
  obtain ⟨e1, e2⟩ := Pl.stops_res hb hzr (fun p hp => by rw [hzl]; exact (hVok p hp).2) s1 s2 s3
  rw [e2]
  rw [e1] at hv hu
  refine ⟨v, u, rfl, hv, hu, ⟨pcs, _, hl, ?_, ?_, hpc⟩, hk⟩
  · rw [Pl.stJ_stS, Pl.st_zs_len, hzl]
  · rw [Pl.stJ_stS]; exact Pl.st_zs_bound hzr _

set_option maxHeartbeats 800000 in
theorem bytes3_any (b : Int) (a1 a2 a3 a4 : Option Addr) (n1 c1 n2 c2 n3 c3 n4 c4 : Nat) (qt : Int) (qw : Bool) (qc : Int) (qd : Bool) (lim : Int) (w : World)
    (h1 : n1 ≤ 9223372036854775807) (h2 : n2 ≤ 9223372036854775807) (h3 : n3 ≤ 9223372036854775807) (h4 : n4 ≤ 9223372036854775807) :
    Calls Try.prog 5 #[.int .i64 b, .slice a1 n1 c1, .slice a2 n2 c2, .slice a3 n3 c3, .slice a4 n4 c4, .int .i64 qt, .bool qw, .int .i64 qc, .bool qd, .int .i64 lim] w fun e w' =>
      w' = w ∧ ∃ c : Bool, e = .returned (.bool c) := by
  go_enter Try.func5, Try.ntmps5
  go_wp2
  all_goals (go_ret; exact ⟨rfl, _, rfl⟩)

set_option maxHeartbeats 800000 in
theorem bytes4_any (b : Int) (a1 a2 a3 a4 : Option Addr) (n1 c1 n2 c2 n3 c3 n4 c4 : Nat) (qt : Int) (qw : Bool) (qc : Int) (qd : Bool) (la lb : Int) (w : World)
    (h1 : n1 ≤ 9223372036854775807) (h2 : n2 ≤ 9223372036854775807) (h3 : n3 ≤ 9223372036854775807) (h4 : n4 ≤ 9223372036854775807) :
    Calls Try.prog 12 #[.int .i64 b, .slice a1 n1 c1, .slice a2 n2 c2, .slice a3 n3 c3, .slice a4 n4 c4, .int .i64 qt, .bool qw, .int .i64 qc, .bool qd, .int .i64 la, .int .i64 lb] w fun e w' =>
      w' = w ∧ ∃ c : Bool, e = .returned (.bool c) := by
  go_enter Try.func12, Try.ntmps12
  go_wp2
  all_goals (go_ret; exact ⟨rfl, _, rfl⟩)

/-- A slice that came in. -/
def Src (w : World) (a : Option Addr) (n c : Nat) (f : Nat → Value) : Prop := (a = none ∧ n = 0 ∧ c = 0) ∨ ∃ x, a = some x ∧ ∀ i, i < n → w.cell? (x.add i) = some (f i)
theorem Src.non {w w' : World} {a : Option Addr} {n c : Nat} {f : Nat → Value} (h : Src w a n c f) (k : Keep Non w w') : Src w' a n c f := by
  rcases h with h | ⟨x, h1, h3⟩
  · exact .inl h
  · exact .inr ⟨x, h1, fun i hi => (k.cell (p := x.add i) (World.block_lt_of_cell? _ _ (h3 i hi)) fun e => e).trans (h3 i hi)⟩

/-- 'copy' of a whole slice into a row that was just made. -/
theorem wpList_copy_all {P : Program} {w : World} {ops : Array Oper} {rest : List Oper} {o : Oper} {a : Act} {Q : Exit → Act → World → Prop} (hgd : o.guard = none) (d s : Operand) (T : TypeId)
    (ho : o.op = .call { callee := .builtin .copy, args := #[d, s], argTypes := #[T, T] }) (elem : TypeId) (hu : P.underlying T = some (.slice elem)) (hsz : (P.info? elem).map (·.size) = some 1)
    (g n : Nat) (x : Addr) (sCap : Nat) (hd : a.eval d = .slice (some ⟨g, 0, none⟩) n n) (hs : a.eval s = .slice (some x) n sCap)
    (cur : Array Value) (hg : Blk w g cur elem) (hcur : cur.size = n) (f : Nat → Value) (hsrc : ∀ i, i < n → w.cell? (x.add i) = some (f i)) (h1 : ∀ i, (f i).oneCell' = true)
    (h : ∀ w', Blk w' g ((List.range n).map f).toArray elem → Keep (fun k => k = g) w w' → wpList P ops Q rest (a.put o.dst (goInt n)) w') : wpList P ops Q (o :: rest) a w := by
  have hl : ((List.range n).map f).length = n := by simp
  refine wpList_copy_own hgd d s T T ho elem hu hsz g 0 n n x n sCap hd hs cur elem hg ((List.range n).map f) (by rw [hl]; exact (Nat.min_self n).symm) (fun j v hv => ?_) (by rw [hl]; omega) (fun v hv => ?_) ?_
  · have hj : j < n := by
      have := (List.getElem?_eq_some_iff.1 hv).1
      simpa using this
    rw [hsrc j hj, ← hv]
    simp [hj]
  · obtain ⟨i, _, rfl⟩ := List.mem_map.1 hv
    exact h1 i
  · rw [hl]
    have e : (cur.toList.take 0 ++ ((List.range n).map f ++ cur.toList.drop (0 + n))).toArray = ((List.range n).map f).toArray := by
      have : cur.toList.drop (0 + n) = [] := List.drop_eq_nil_of_le (by simp; omega)
      rw [this]; simp
    rw [e]
    exact h _ (setRow_heap w g _ _ elem _ hg) ⟨rfl, rfl, rfl, by simp, fun k hk hn => setRow_other w g k _ hn⟩

theorem arr_of_row {w : World} {g n : Nat} {f : Nat → Value} {t : TypeId} (h : Blk w g ((List.range n).map f).toArray t) : Arr w (some ⟨g, 0, none⟩) n f :=
  .inr ⟨g, rfl, h.lt, fun i hi => by rw [h.cell i]; simp [hi]⟩

theorem Arr.congr {w : World} {a : Option Addr} {n : Nat} {f g : Nat → Value} (h : Arr w a n f) (e : ∀ i, i < n → f i = g i) : Arr w a n g := by
  rcases h with h | ⟨x, h1, h2, h3⟩
  · exact .inl h
  · exact .inr ⟨x, h1, h2, fun i hi => by rw [h3 i hi, e i hi]⟩

def bools (l : List Bool) : Array Value := (l.map Value.bool).toArray
theorem Try.info4 : (Try.prog.info? 4).map (fun i => (i.zero, i.size, i.bytes)) = some (some (.bool false), 1, 1) := by kernel_rfl
theorem Try.info2 : (Try.prog.info? 2).map (fun i => (i.zero, i.size, i.bytes)) = some (some (.int .i64 0), 1, 8) := by kernel_rfl
theorem made_bools (n : Nat) : madeCells #[.bool false] n = bools (List.replicate n false) := by
  apply Array.ext
  · simp [madeCells, bools]
  · intro i h1 h2
    simp [madeCells, bools, Nat.mod_one]
theorem make23 (n : Nat) (h : n ≤ 100000) (w : World) : (Instr.makeSlice 23 (.int .i64 n) (.int .i64 n)).run Try.prog w = .ok (.slice (some ⟨w.heap.size, 0, none⟩) n n) (w.alloc (.cells (bools (List.replicate n false)) 4)) := by
  obtain ⟨i0, hi, hz0, hz1, hz2⟩ := info_parts Try.info4
  have hr := run_make (P := Try.prog) w 23 4 i0 _ Try.underlying23 hi hz0 .i64 .i64 n n (by omega) (by omega) (by rw [hz2]; omega) (by omega)
  rw [hz1] at hr
  simpa [Value.cells, made_bools] using hr
theorem make24 (n : Nat) (h : n ≤ 100000) (w : World) : (Instr.makeSlice 24 (.int .i64 n) (.int .i64 n)).run Try.prog w = .ok (.slice (some ⟨w.heap.size, 0, none⟩) n n) (w.alloc (.cells (ints (List.replicate n 0)) 2)) := by
  obtain ⟨i0, hi, hz0, hz1, hz2⟩ := info_parts Try.info2
  have hr := run_make (P := Try.prog) w 24 2 i0 _ Try.underlying24 hi hz0 .i64 .i64 n n (by omega) (by omega) (by rw [hz2]; omega) (by omega)
  rw [hz1] at hr
  simpa [Value.cells, made_ints] using hr
theorem Try.size3 : (Try.prog.info? 3).map (·.size) = some 1 := by kernel_rfl
theorem Try.size4 : (Try.prog.info? 4).map (·.size) = some 1 := by kernel_rfl
theorem Try.size2 : (Try.prog.info? 2).map (·.size) = some 1 := by kernel_rfl

end Go.Proofs.Qxb6626002a
