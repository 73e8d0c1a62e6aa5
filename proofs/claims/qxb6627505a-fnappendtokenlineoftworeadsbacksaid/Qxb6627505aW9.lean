import Derived.Test.Qxb6627505aW8
namespace Go.Proofs.Qxb6627505a
open Go.RowKit
set_option linter.unusedVariables false

/-- One byte inside a quoted form. -/
def encB (c : Int) : List Int :=
  if c = 92 ∨ c = 34 then [92, c] else if c = 10 then [92, 110] else if c = 9 then [92, 116] else if printable c = false then [92, 120, hexd (c / 16), hexd (c % 16)] else [c]
def encQ (t : List Int) : List Int := t.flatMap encB
def enc (t : List Int) : List Int := if bareTok t then t else 34 :: (encQ t ++ [34])

theorem encB_len (c : Int) : (encB c).length ≤ 4 := by
  unfold encB; repeat' split
  all_goals simp
theorem encQ_len (t : List Int) : (encQ t).length ≤ 4 * t.length := by
  induction t with
  | nil => simp [encQ]
  | cons c t ih => simp only [encQ, List.flatMap_cons, List.length_append, List.length_cons] at ih ⊢; have := encB_len c; omega
theorem encQ_snoc (t : List Int) (k : Nat) (hk : k < t.length) : encQ (t.take (k + 1)) = encQ (t.take k) ++ encB (t.getD k 0) := by
  have : t.take (k + 1) = t.take k ++ [t.getD k 0] := by
    rw [List.take_add_one]; simp [hk]
  rw [this]; simp [encQ]

/-- The first append: onto a buffer that may be nil. -/
theorem wpList_st0 {w : World} {v0 : Value} {ops : Array Oper} {rest : List Oper} {o : Oper} {a : Act} {Q : Exit → Act → World → Prop} (hgd : o.guard = none) (s x : Operand)
    (ho : o.op = .call { callee := .builtin .append, args := #[s, x], argTypes := #[22, 22] }) (base : Nat) (z : List Int) (hs : a.eval s = v0) (hown : Own w base v0 z)
    (c : Nat) (news : List Int) (m : Nat) (hm : news.length = m) (hx : a.eval x = .slice (some ⟨w.heap.size, 0, none⟩) m c) (cells : Array Value) (hcs : cells = (vals news).toArray)
    (h0 : 0 < m) (hz : z.length + m ≤ 100000000) (hbase : base ≤ w.heap.size)
    (h : ∀ v' w', St w v0 base w' v' (z ++ news) → wpList Try.prog ops Q rest (a.put o.dst v') w') : wpList Try.prog ops Q (o :: rest) a (w.alloc (.cells cells 5)) := by
  subst hcs
  refine wpList_app hgd s x ho base _ z hs (hown.alloc _) ⟨w.heap.size, 0, none⟩ c news m hm hx ?_ h0 hz (by simp; omega) ?_
  · intro i hi
    have hb := Blk.new w (vals news).toArray 5
    have : (⟨w.heap.size, 0, none⟩ : Addr).add i = ⟨w.heap.size, i, none⟩ := by unfold Addr.add; split <;> simp_all
    rw [this, hb.cell i]
    subst hm
    simp [vals, hi]
  · intro g2 cap2 w2 h1 h2 h3
    refine h _ w2 ⟨g2, cap2, by simp [hm], by simpa using h1, ((Keep.refl _ _).alloc _).then h2 fun i hi e => e, ?_⟩
    rcases h3 with h3 | h3
    · exact .inl h3
    · right; simp at h3; omega
end Go.Proofs.Qxb6627505a
