import Derived.Test.Qxb6627505aW7
import Derived.Deep.AppendLies
namespace Go.Proofs.Qxb6627505a
open Go.RowKit
set_option linter.unusedVariables false

/-- The buffer as it stands: it holds z; of what stood in w0 only the first buffer's block may have turned. -/
def St (w0 : World) (v0 : Value) (base : Nat) (wr : World) (v : Value) (z : List Int) : Prop :=
  ∃ g cap, v = .slice (some ⟨g, 0, none⟩) z.length cap ∧ Own wr base v z ∧ Keep (fun k => v0.ownBlock = some k) w0 wr ∧ (v0.ownBlock = some g ∨ w0.heap.size ≤ g)

/-- Any append onto the buffer. -/
theorem wpList_app {w : World} {ops : Array Oper} {rest : List Oper} {o : Oper} {a : Act} {Q : Exit → Act → World → Prop} (hgd : o.guard = none) (s x : Operand)
    (ho : o.op = .call { callee := .builtin .append, args := #[s, x], argTypes := #[22, 22] }) (base : Nat) (v : Value) (z : List Int) (hs : a.eval s = v) (hown : Own w base v z)
    (ad : Addr) (c : Nat) (news : List Int) (m : Nat) (hm : news.length = m) (hx : a.eval x = .slice (some ad) m c) (hnews : ∀ i, i < m → w.cell? (ad.add i) = some (.int .u8 (news.getD i 0)))
    (h0 : 0 < m) (hz : z.length + m ≤ 100000000) (hbase : base ≤ w.heap.size)
    (h : ∀ g cap w', Own w' base (.slice (some ⟨g, 0, none⟩) (z.length + m) cap) (z ++ news) → Keep (fun k => v.ownBlock = some k) w w' → (v.ownBlock = some g ∨ g = w.heap.size) →
      wpList Try.prog ops Q rest (a.put o.dst (.slice (some ⟨g, 0, none⟩) (z.length + m) cap)) w') : wpList Try.prog ops Q (o :: rest) a w := by
  obtain ⟨i0, hi, hz0, hz1, hz2⟩ := info_parts Try.info5
  subst hm
  refine wpList_append_lies _ hgd _ _ 22 ho base 5 i0 (.int .u8 0) 1 1 Try.underlying22 hi hz0 hz1 hz2 rfl (by decide) v z.length (vals z) hs hown ad news.length c (vals news) hx (by simp [vals]) ?_ ?_ h0 (by unfold maxLen; omega) (by omega) hbase w.heap.size rfl ?_
  · intro j u hj
    have hl : j < news.length := by
      have := (List.getElem?_eq_some_iff.1 hj).1
      simpa [vals] using this
    rw [hnews j hl]
    simp [vals, hl] at hj ⊢
    exact hj
  · intro u hu
    simp [vals] at hu
    obtain ⟨y, _, rfl⟩ := hu
    rfl
  · intro g cap w' h2 h3 h4 h5
    refine h g cap w' ?_ ?_ h4
    · unfold Own; simpa [vals] using h2
    · exact (Keep.of_grown h3).mono fun i hi e => e.symm

/-- An append of bytes that were just laid. -/
theorem wpList_st {w0 wr : World} {v0 : Value} {ops : Array Oper} {rest : List Oper} {o : Oper} {a : Act} {Q : Exit → Act → World → Prop} (hgd : o.guard = none) (s x : Operand)
    (ho : o.op = .call { callee := .builtin .append, args := #[s, x], argTypes := #[22, 22] }) (base : Nat) (v : Value) (z : List Int) (hs : a.eval s = v) (hst : St w0 v0 base wr v z)
    (c : Nat) (news : List Int) (m : Nat) (hm : news.length = m) (hx : a.eval x = .slice (some ⟨wr.heap.size, 0, none⟩) m c) (cells : Array Value) (hcs : cells = (vals news).toArray)
    (h0 : 0 < m) (hz : z.length + m ≤ 100000000) (hbase : base ≤ w0.heap.size)
    (h : ∀ v' w', St w0 v0 base w' v' (z ++ news) → wpList Try.prog ops Q rest (a.put o.dst v') w') : wpList Try.prog ops Q (o :: rest) a (wr.alloc (.cells cells 5)) := by
  obtain ⟨g, cap, rfl, hown, hk, hg⟩ := hst
  subst hcs
  have hsz := hk.size
  refine wpList_app hgd s x ho base _ z hs (hown.alloc _) ⟨wr.heap.size, 0, none⟩ c news m hm hx ?_ h0 hz (by simp; omega) ?_
  · intro i hi
    have hb := Blk.new wr (vals news).toArray 5
    have : (⟨wr.heap.size, 0, none⟩ : Addr).add i = ⟨wr.heap.size, i, none⟩ := by unfold Addr.add; split <;> simp_all
    rw [this, hb.cell i]
    subst hm
    simp [vals, hi]
  · intro g2 cap2 w2 h1 h2 h3
    refine h _ w2 ⟨g2, cap2, by simp [hm], by simpa using h1, ?_, ?_⟩
    · refine (hk.alloc _).then h2 fun i hi e => ?_
      simp [Value.ownBlock] at e
      rcases hg with hg | hg
      · rw [hg, e]
      · omega
    · rcases h3 with h3 | h3
      · simp [Value.ownBlock] at h3
        subst h3
        exact hg
      · right; simp at h3; omega
end Go.Proofs.Qxb6627505a
