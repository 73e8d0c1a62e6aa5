import Derived.Test.Qxb6626002aW8
namespace Go.Proofs.Qxb6626002a
open Go.RowKit
set_option linter.unusedVariables false

/-- The zero of an operation; the operation at a place. -/
def z0 : Pl.Acc := ⟨0, false, 0, false⟩
def at0 (ops : List Pl.Acc) (i : Nat) : Pl.Acc := ops.getD i z0

/-- A slice that is read: empty (nil or not), or a row that begins at a block's head. -/
def Arr (w : World) (a : Option Addr) (n : Nat) (f : Nat → Value) : Prop := n = 0 ∨ ∃ g, a = some ⟨g, 0, none⟩ ∧ g < w.heap.size ∧ ∀ i, i < n → w.cell? ⟨g, i, none⟩ = some (f i)
theorem Arr.keep {S : Nat → Prop} {w w' : World} {a : Option Addr} {n : Nat} {f : Nat → Value} (h : Arr w a n f) (k : Keep S w w') (hs : ∀ g, a = some ⟨g, 0, none⟩ → ¬ S g) : Arr w' a n f := by
  rcases h with h | ⟨g, h1, h2, h3⟩
  · exact .inl h
  · exact .inr ⟨g, h1, Nat.lt_of_lt_of_le h2 k.size, fun i hi => (k.cell (p := ⟨g, i, none⟩) h2 (hs g h1)).trans (h3 i hi)⟩
theorem Arr.non {w w' : World} {a : Option Addr} {n : Nat} {f : Nat → Value} (h : Arr w a n f) (k : Keep Non w w') : Arr w' a n f := h.keep k fun _ _ e => e

theorem Try.info45 : (Try.prog.info? 45).map (fun i => (i.zero, i.size, i.bytes)) = some (some (.agg #[.int .i64 0, .bool false, .int .i64 0, .bool false]), 4, 32) := by kernel_rfl
theorem Try.info32 : (Try.prog.info? 32).map (fun i => (i.zero, i.size, i.bytes)) = some (some (.agg #[.int .i64 0, .bool false, .int .i64 0, .bool false]), 4, 32) := by kernel_rfl

theorem accs_len (l : List Pl.Acc) : (l.flatMap accL).length = 4 * l.length := by
  induction l with
  | nil => rfl
  | cons p l ih => rw [List.flatMap_cons, List.length_append, ih]; simp [accL]; omega

theorem made_ints (n : Nat) : madeCells #[.int .i64 0] n = ints (List.replicate n 0) := by
  apply Array.ext
  · simp [madeCells, ints]
  · intro i h1 h2
    simp [madeCells, ints, Nat.mod_one]

theorem made_accs (n : Nat) : madeCells #[.int .i64 0, .bool false, .int .i64 0, .bool false] (n * 4) = accs (List.replicate n z0) := by
  apply Array.ext_getElem?
  intro i
  by_cases h : i < n * 4
  · have hd : i = (i / 4) * 4 + i % 4 := by omega
    have hr : (accs (List.replicate n z0))[i]? = (accL z0)[i % 4]? := by
      conv => lhs; rw [hd]
      rw [accs_get _ (i / 4) (i % 4) (by simp; omega) (by omega)]
      simp
    rw [hr]
    have h4 : i % 4 < 4 := by omega
    simp only [madeCells, Array.getElem?_map, Array.getElem?_range, h, if_true, Option.map_some]
    have e : ∀ k, k < 4 → (#[Value.int .i64 0, .bool false, .int .i64 0, .bool false] : Array Value)[k]! = (accL z0)[k]! := by
      intro k hk
      match k, hk with
      | 0, _ => rfl
      | 1, _ => rfl
      | 2, _ => rfl
      | 3, _ => rfl
    have e2 : ∀ k, k < 4 → (accL z0)[k]? = some (accL z0)[k]! := by
      intro k hk
      match k, hk with
      | 0, _ => rfl
      | 1, _ => rfl
      | 2, _ => rfl
      | 3, _ => rfl
    rw [e2 _ h4]
    exact congrArg some (e _ h4)
  · have h1 : (madeCells #[.int .i64 0, .bool false, .int .i64 0, .bool false] (n * 4))[i]? = none := by simp [madeCells]; omega
    have h2 : (accs (List.replicate n z0))[i]? = none := by
      have := accs_len (List.replicate n z0)
      simp [accs] at *
      omega
    rw [h1, h2]

theorem make45 (n : Nat) (h : n ≤ 5000) (w : World) : (Instr.makeSlice 43 (.int .i64 n) (.int .i64 n)).run Try.prog w = .ok (.slice (some ⟨w.heap.size, 0, none⟩) n n) (w.alloc (.cells (accs (List.replicate n z0)) 45)) := by
  obtain ⟨i0, hi, hz0, hz1, hz2⟩ := info_parts Try.info45
  have hr := run_make (P := Try.prog) w 43 45 i0 _ Try.underlying43 hi hz0 .i64 .i64 n n (by omega) (by omega) (by rw [hz2]; omega) (by omega)
  rw [hz1] at hr
  simpa [Value.cells, made_accs] using hr
theorem make32 (n : Nat) (h : n ≤ 5000) (w : World) : (Instr.makeSlice 28 (.int .i64 n) (.int .i64 n)).run Try.prog w = .ok (.slice (some ⟨w.heap.size, 0, none⟩) n n) (w.alloc (.cells (accs (List.replicate n z0)) 32)) := by
  obtain ⟨i0, hi, hz0, hz1, hz2⟩ := info_parts Try.info32
  have hr := run_make (P := Try.prog) w 28 32 i0 _ Try.underlying28 hi hz0 .i64 .i64 n n (by omega) (by omega) (by rw [hz2]; omega) (by omega)
  rw [hz1] at hr
  simpa [Value.cells, made_accs] using hr
theorem make22 (l : Nat) (n : Nat) (hl : l ≤ n) (h : n ≤ 100000) (w : World) : (Instr.makeSlice 22 (.int .i64 l) (.int .i64 n)).run Try.prog w = .ok (.slice (some ⟨w.heap.size, 0, none⟩) l n) (w.alloc (.cells (ints (List.replicate n 0)) 3)) := by
  obtain ⟨i0, hi, hz0, hz1, hz2⟩ := info_parts Try.info3
  have hr := run_make (P := Try.prog) w 22 3 i0 _ Try.underlying22 hi hz0 .i64 .i64 l n (by omega) (by omega) (by rw [hz2]; omega) (by omega)
  rw [hz1] at hr
  simpa [Value.cells, made_ints] using hr

theorem accs_size (l : List Pl.Acc) : (accs l).size = 4 * l.length := by unfold accs; rw [List.size_toArray]; exact accs_len l
theorem accs_at (l : List Pl.Acc) (i : Nat) (h : i < 4 * l.length) : (accs l)[i]? = (accL (at0 l (i / 4)))[i % 4]? := by
  have hd : i = (i / 4) * 4 + i % 4 := by omega
  have hq : i / 4 < l.length := by omega
  conv => lhs; rw [hd]
  rw [accs_get _ (i / 4) (i % 4) hq (by omega)]
  simp [at0, hq]
theorem at0_set_same (l : List Pl.Acc) (k : Nat) (p : Pl.Acc) (h : k < l.length) : at0 (l.set k p) k = p := by simp [at0, h]
theorem at0_set_other (l : List Pl.Acc) (k i : Nat) (p : Pl.Acc) (h : i ≠ k) : at0 (l.set k p) i = at0 l i := by
  simp [at0, Ne.symm h]

/-- A store of a whole operation into a row. -/
theorem accs_set (l : List Pl.Acc) (k : Nat) (p : Pl.Acc) (h : k < l.length) :
    ((((accs l).setIfInBounds (k * 4) (.int .i64 p.tx)).setIfInBounds (k * 4 + 1) (.bool p.wr)).setIfInBounds (k * 4 + 2) (.int .i64 p.cr)).setIfInBounds (k * 4 + 3) (.bool p.dis) = accs (l.set k p) := by
  apply Array.ext_getElem?
  intro i
  simp only [Array.getElem?_setIfInBounds]
  have hlen := accs_size l
  have hsz : ∀ a : Array Value, ∀ j v, (a.setIfInBounds j v).size = a.size := fun a j v => by simp
  simp only [hsz, hlen]
  by_cases hi : i < 4 * l.length
  · rw [accs_at (l.set k p) i (by simpa using hi), accs_at l i hi]
    by_cases hk : i / 4 = k
    · rw [hk, at0_set_same l k p h]
      have h4 : i % 4 < 4 := by omega
      generalize hm : i % 4 = m at *
      match m, h4 with
      | 0, _ => rw [if_neg (by omega), if_neg (by omega), if_neg (by omega), if_pos (by omega), if_pos (by omega)]; rfl
      | 1, _ => rw [if_neg (by omega), if_neg (by omega), if_pos (by omega), if_pos (by omega)]; rfl
      | 2, _ => rw [if_neg (by omega), if_pos (by omega), if_pos (by omega)]; rfl
      | 3, _ => rw [if_pos (by omega), if_pos (by omega)]; rfl
    · rw [at0_set_other l k _ p hk, if_neg (by omega), if_neg (by omega), if_neg (by omega), if_neg (by omega)]
  · have h1 : (accs l)[i]? = none := Array.getElem?_eq_none (by omega)
    have h2 : (accs (l.set k p))[i]? = none := Array.getElem?_eq_none (by rw [accs_size]; simp; omega)
    rw [h1, h2, if_neg (by omega), if_neg (by omega), if_neg (by omega), if_neg (by omega)]

/-- A row that is being filled: the first k operations are laid, the others are zero. -/
def filled (ops : List Pl.Acc) (k : Nat) : List Pl.Acc := ops.take k ++ List.replicate (ops.length - k) z0
theorem filled_len (ops : List Pl.Acc) (k : Nat) (h : k ≤ ops.length) : (filled ops k).length = ops.length := by simp [filled]; omega
theorem filled_zero (ops : List Pl.Acc) : filled ops 0 = List.replicate ops.length z0 := by simp [filled]
theorem filled_all (ops : List Pl.Acc) : filled ops ops.length = ops := by simp [filled]
theorem filled_succ (ops : List Pl.Acc) (k : Nat) (h : k < ops.length) : (filled ops k).set k (at0 ops k) = filled ops (k + 1) := by
  apply List.ext_getElem?
  intro i
  rw [List.getElem?_set, filled_len ops k (by omega)]
  unfold filled at0
  by_cases h1 : i < k
  · rw [if_neg (by omega), List.getElem?_append_left (by simp; omega), List.getElem?_append_left (by simp; omega), List.getElem?_take_of_lt h1, List.getElem?_take_of_lt (by omega)]
  · by_cases h2 : i = k
    · subst h2
      rw [if_pos rfl, if_pos h, List.getElem?_append_left (by simp; omega), List.getElem?_take_of_lt (by omega)]
      simp [h]
    · rw [if_neg (by omega), List.getElem?_append_right (by simp; omega), List.getElem?_append_right (by simp; omega)]
      simp only [List.length_take, List.getElem?_replicate]
      have a1 : min k ops.length = k := by omega
      have a2 : min (k + 1) ops.length = k + 1 := by omega
      rw [a1, a2]
      by_cases h3 : i < ops.length
      · rw [if_pos (by omega), if_pos (by omega)]
      · rw [if_neg (by omega), if_neg (by omega)]

theorem Blk.fill {w : World} {O t : Nat} {ops : List Pl.Acc} {k : Nat} (h : Blk w O (accs (filled ops k)) t) (hk : k < ops.length) :
    Blk ((((w.setCell ⟨O, k * 4, none⟩ (.int .i64 (at0 ops k).tx)).setCell ⟨O, k * 4 + 1, none⟩ (.bool (at0 ops k).wr)).setCell ⟨O, k * 4 + 2, none⟩ (.int .i64 (at0 ops k).cr)).setCell ⟨O, k * 4 + 3, none⟩ (.bool (at0 ops k).dis)) O (accs (filled ops (k + 1))) t := by
  have h1 := (((h.set (k * 4) (.int .i64 (at0 ops k).tx)).set (k * 4 + 1) (.bool (at0 ops k).wr)).set (k * 4 + 2) (.int .i64 (at0 ops k).cr)).set (k * 4 + 3) (.bool (at0 ops k).dis)
  rw [accs_set _ _ _ (by rw [filled_len ops k (by omega)]; exact hk), filled_succ ops k hk] at h1
  exact h1

end Go.Proofs.Qxb6626002a
