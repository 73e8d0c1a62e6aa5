import Derived.Test.Qxb6626002aPlain
namespace Go.Proofs.Qxb6626002a.Pl

/-- The state of zzNoValueSimilar. -/
structure NS where
  some : Bool
  anyDis : Bool
  haveVal : Bool
  lo : Int
  hi : Int

def ns0 : NS := ⟨false, false, false, 0, 0⟩
/-- q walks over p. -/
def wk (q p : Acc) : Bool := q.wr || p.wr
def nstp (b : Int) (q w : Acc) (s : NS) : NS :=
  if carr b w q then
    if w.dis then ⟨true, true, s.haveVal, s.lo, s.hi⟩
    else ⟨true, s.anyDis, true, if !s.haveVal || decide (w.cr < s.lo) then w.cr else s.lo, if !s.haveVal || decide (s.hi < w.cr) then w.cr else s.hi⟩
  else s
def nsJ (b : Int) (q : Acc) (ops : List Acc) (j : Nat) : NS := ((ops.drop j).filter (wk q)).foldr (nstp b q) ns0
def rkJ (q : Acc) (ops : List Acc) (j : Nat) : Nat := ((ops.drop j).filter (wk q)).length
def nsRes (b : Int) (s : NS) : Bool := s.some && (s.anyDis || !(near b (s.lo + (s.hi - s.lo) / 2) s.lo && near b (s.lo + (s.hi - s.lo) / 2) s.hi))

theorem nsJ_top (b : Int) (q : Acc) (ops : List Acc) : nsJ b q ops ops.length = ns0 := by simp [nsJ]
theorem rkJ_top (q : Acc) (ops : List Acc) : rkJ q ops ops.length = 0 := by simp [rkJ]
theorem nsJ_in (b : Int) (q : Acc) (ops : List Acc) (j : Nat) (h : j < ops.length) (hw : wk q ops[j] = true) : nsJ b q ops j = nstp b q ops[j] (nsJ b q ops (j + 1)) ∧ rkJ q ops j = rkJ q ops (j + 1) + 1 := by
  unfold nsJ rkJ
  rw [List.drop_eq_getElem_cons h, List.filter_cons_of_pos hw]
  exact ⟨rfl, rfl⟩
theorem nsJ_out (b : Int) (q : Acc) (ops : List Acc) (j : Nat) (h : j < ops.length) (hw : wk q ops[j] = false) : nsJ b q ops j = nsJ b q ops (j + 1) ∧ rkJ q ops j = rkJ q ops (j + 1) := by
  unfold nsJ rkJ
  rw [List.drop_eq_getElem_cons h, List.filter_cons_of_neg (by rw [hw]; simp)]
  exact ⟨rfl, rfl⟩
theorem rkJ_le (q : Acc) (ops : List Acc) (j : Nat) : rkJ q ops j ≤ ops.length := by
  unfold rkJ
  exact Nat.le_trans (List.length_filter_le _ _) (by simp)

def NS.ok (s : NS) : Prop := (s.haveVal = true → 0 ≤ s.lo ∧ s.lo ≤ s.hi ∧ s.hi ≤ 9223372036854775807) ∧ (s.some = true → s.anyDis = true ∨ s.haveVal = true)

theorem nstp_ok {b : Int} {q w : Acc} {s : NS} (hw : w.ok) (hs : s.ok) : (nstp b q w s).ok := by
  obtain ⟨h1, h2⟩ := hs
  unfold nstp
  split
  · split
    · exact ⟨h1, fun _ => .inl rfl⟩
    · rename_i hd
      have hc := hw.1 (by simpa using hd)
      have hc' := hw.2
      refine ⟨fun _ => ?_, fun _ => .inr rfl⟩
      simp only
      cases hv : s.haveVal
      · simp; omega
      · have := h1 hv
        simp only [Bool.not_true, Bool.false_or]
        split <;> split <;> simp_all <;> omega
  · exact ⟨h1, h2⟩

theorem nsJ_ok (b : Int) (q : Acc) (ops : List Acc) (j : Nat) (hok : ∀ p ∈ ops, p.ok) : (nsJ b q ops j).ok := by
  unfold nsJ
  have h : ∀ p ∈ (ops.drop j).filter (wk q), p.ok := fun p hp => hok p (List.mem_of_mem_drop (List.mem_filter.1 hp).1)
  generalize (ops.drop j).filter (wk q) = l at *
  induction l with
  | nil => exact ⟨by simp [ns0], by simp [ns0]⟩
  | cons p l ih => exact nstp_ok (h p (by simp)) (ih fun p hp => h p (by simp [hp]))

end Go.Proofs.Qxb6626002a.Pl
