import Derived.Test.Qxb6627505aW3
import Derived.OwnWalk
import Derived.Laws.CopyOwn
import Derived.Laws.AppendOwn
namespace Go.Proofs.Qxb6627505a
open Go.RowKit
set_option linter.unusedVariables false

/-- 'copy' of a whole slice into a row that was just made. -/
theorem wpList_copy_all {P : Program} {w : World} {ops : Array Oper} {rest : List Oper} {o : Oper} {a : Act} {Q : Exit → Act → World → Prop} (hgd : o.guard = none) (d s : Operand) (T : TypeId)
    (ho : o.op = .call { callee := .builtin .copy, args := #[d, s], argTypes := #[T, T] }) (elem : TypeId) (hu : P.underlying T = some (.slice elem)) (hsz : (P.info? elem).map (·.size) = some 1)
    (g n : Nat) (x : Addr) (sCap : Nat) (hd : a.eval d = .slice (some ⟨g, 0, none⟩) n n) (hs : a.eval s = .slice (some x) n sCap)
    (cur : Array Value) (hg : Blk w g cur elem) (hcur : cur.size = n) (f : Nat → Value) (hsrc : ∀ i, i < n → w.cell? (x.add i) = some (f i)) (h1 : ∀ i, (f i).oneCell' = true)
    (h : ∀ w', Blk w' g ((List.range n).map f).toArray elem → Keep (fun k => k = g) w w' → wpList P ops Q rest (a.put o.dst (goInt n)) w') : wpList P ops Q (o :: rest) a w := by
  have hl : ((List.range n).map f).length = n := by simp
  refine wpList_copy_own hgd d s T T ho elem hu hsz g 0 n n x n sCap hd hs cur elem hg ((List.range n).map f) (by rw [hl]; exact (Nat.min_self n).symm) (fun j v hv => ?_) (by rw [hl]; omega) (fun v hv => ?_) ?_
  · have hj : j < n := by
      have := (List.getElem?_eq_some_iff.1 hv).1
      simpa using this
    rw [hsrc j hj, ← hv]
    simp [hj]
  · obtain ⟨i, _, rfl⟩ := List.mem_map.1 hv
    exact h1 i
  · rw [hl]
    have e : (cur.toList.take 0 ++ ((List.range n).map f ++ cur.toList.drop (0 + n))).toArray = ((List.range n).map f).toArray := by
      have : cur.toList.drop (0 + n) = [] := List.drop_eq_nil_of_le (by simp; omega)
      rw [this]; simp
    rw [e]
    exact h _ (setRow_heap w g _ _ elem _ hg) ⟨rfl, rfl, rfl, by simp, fun k hk hn => setRow_other w g k _ hn⟩


def vals (l : List Int) : List Value := l.map (Value.int .u8)
/-- A buffer of the call's own that holds the bytes z. -/
def Own (w : World) (base : Nat) (v : Value) (z : List Int) : Prop := w.ownsRow base 5 1 v z.length (vals z)
theorem Try.info5 : (Try.prog.info? 5).map (fun i => (i.zero, i.size, i.bytes)) = some (some (.int .u8 0), 1, 1) := by kernel_rfl
theorem Try.size5 : (Try.prog.info? 5).map (·.size) = some 1 := by kernel_rfl
theorem made_u8 (n : Nat) : madeCells #[.int .u8 0] n = (vals (List.replicate n 0)).toArray := by
  apply Array.ext
  · simp [madeCells, vals]
  · intro i h1 h2
    simp [madeCells, vals, Nat.mod_one]
theorem make22 (n : Nat) (h : n ≤ 9000000) (w : World) : (Instr.makeSlice 22 (.int .i64 n) (.int .i64 n)).run Try.prog w = .ok (.slice (some ⟨w.heap.size, 0, none⟩) n n) (w.alloc (.cells (vals (List.replicate n 0)).toArray 5)) := by
  obtain ⟨i0, hi, hz0, hz1, hz2⟩ := info_parts Try.info5
  have hr := run_make (P := Try.prog) w 22 5 i0 _ Try.underlying22 hi hz0 .i64 .i64 n n (by omega) (by omega) (by rw [hz2]; omega) (by omega)
  rw [hz1] at hr
  simpa [Value.cells, made_u8] using hr
theorem range_vals (z : List Int) : (List.range z.length).map (fun i => Value.int .u8 (z.getD i 0)) = vals z := by
  apply List.ext_getElem
  · simp [vals]
  · intro i h1 h2
    simp [vals] at h2 ⊢
    simp [h2]

theorem nil_yes (c : Nat) (w : World) : (binOp .eql 22 (.slice none 0 c) (.slice none 0 0)).run Try.prog w = .ok (.bool true) w := by kernel_rfl
theorem nil_no (x : Addr) (n c : Nat) (w : World) : (binOp .eql 22 (.slice (some x) n c) (.slice none 0 0)).run Try.prog w = .ok (.bool false) w := by kernel_rfl

set_option maxHeartbeats 800000 in
theorem clone_any (a : Option Addr) (z : List Int) (c : Nat) (w : World) (h : Rd w a z) (hn : z.length ≤ 9000000) :
    Calls Try.prog 6 #[.slice a z.length c] w fun e w' => ∃ v, e = .returned v ∧ Own w' w.heap.size v z ∧ Keep Non w w' := by
  rcases h with ⟨rfl, rfl⟩ | ⟨x, rfl, f⟩
  · have e1 := nil_yes c
    go_enter Try.func6, Try.ntmps6
    go_wp2
    go_ret
    exact ⟨_, rfl, World.ownsRow_nil _ _ _ _, Keep.refl _ _⟩
  · have e1 := nil_no x z.length c
    have hm := fun w => make22 z.length hn w
    have hsrc : ∀ i, i < z.length → (w.alloc (.cells (vals (List.replicate z.length 0)).toArray 5)).cell? (x.add i) = some (.int .u8 (z.getD i 0)) := fun i hi => (((Keep.refl Non w).alloc _).cell (World.block_lt_of_cell? _ _ (f i hi)) (fun e => e)).trans (f i hi)
    go_enter Try.func6, Try.ntmps6
    go_wp2_with (refine wpList_copy_all rfl _ _ 22 rfl 5 Try.underlying22 Try.size5 w.heap.size z.length x c rfl rfl (vals (List.replicate z.length 0)).toArray (Blk.new _ _ _) (by simp [vals]) (fun i => .int .u8 (z.getD i 0)) hsrc (fun _ => rfl) ?_; intro w2 hB hk; rw [range_vals] at hB; clear hsrc f)
    go_ret
    refine ⟨_, rfl, ⟨by simp [vals], .inr ⟨w.heap.size, z.length, _, rfl, Nat.le_refl _, hB, Nat.le_refl _, by unfold maxLen; omega, by simp [vals], by simp [vals]; exact List.take_of_length_le (by simp)⟩⟩, ?_⟩
    exact (((Keep.refl Non w).alloc _).then hk fun i hi e => by omega)
end Go.Proofs.Qxb6627505a
