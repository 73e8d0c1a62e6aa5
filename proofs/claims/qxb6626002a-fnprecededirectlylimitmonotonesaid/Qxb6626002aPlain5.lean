import Derived.Test.Qxb6626002aPlain4
namespace Go.Proofs.Qxb6626002a.Pl
set_option linter.unusedVariables false

theorem fromL_prefix (b : Int) (q : Acc) (V : List Acc) {lo hi : Int} (h : lo ≤ hi) : fromL b q V lo <+: fromL b q V hi := by
  unfold fromL
  obtain ⟨P, hP⟩ := drop_split V (show V.length - hi.toNat ≤ V.length - lo.toNat by omega)
  rw [hP]
  exact namesL_prefix b q P _

theorem foundL_mono {b : Int} (hb : 0 ≤ b) (q : Acc) (V : List Acc) {lo hi : Int} (h : lo ≤ hi) (hf : foundL b q V lo = true) : foundL b q V hi = true ∧ fromL b q V lo = fromL b q V hi := by
  unfold foundL fromL at *
  simp only [Bool.or_eq_true, decide_eq_true_eq] at *
  rcases hf with hf | hf
  · have e1 : V.length - lo.toNat = 0 := by omega
    have e2 : V.length - hi.toNat = 0 := by omega
    exact ⟨.inl (by omega), by rw [e1, e2]⟩
  · obtain ⟨P, hP⟩ := drop_split V (show V.length - hi.toNat ≤ V.length - lo.toNat by omega)
    have hCA := (carB_iff hb q _).1 hf
    rw [hP]
    exact ⟨.inr ((carB_iff hb q _).2 (hCA.suffix fun x hx => List.mem_append_right _ hx)), (namesL_CA hb P hCA).symm⟩

theorem foundL_all (b : Int) (q : Acc) (V : List Acc) {n : Int} (h : (V.length : Int) ≤ n) : foundL b q V n = true := by
  unfold foundL
  have : V.length ≤ n.toNat := by omega
  simp [this]
theorem fromL_all (b : Int) (q : Acc) (V : List Acc) {n m : Int} (h : (V.length : Int) ≤ n) (h' : (V.length : Int) ≤ m) : fromL b q V n = fromL b q V m := by
  unfold fromL
  rw [show V.length - n.toNat = 0 from by omega, show V.length - m.toNat = 0 from by omega]

/-- The latest operation walked, if it conflicts, is named first. -/
theorem fromL_last (b : Int) (q : Acc) (ops : List Acc) {n : Int} (hn : ((ops.filter (wk q)).length : Int) ≤ n) (j : Nat) (hj : j < ops.length) (hw : wk q ops[j] = true) (hlast : (ops.drop (j + 1)).filter (wk q) = []) (hc : conf b ops[j] q = true) :
    ∃ t, fromL b q (ops.filter (wk q)) n = ops[j].tx :: t := by
  have h1 : (ops.drop j).filter (wk q) = [ops[j]] := by rw [List.drop_eq_getElem_cons hj, List.filter_cons_of_pos hw, hlast]
  have h2 : ops.filter (wk q) = (ops.take j).filter (wk q) ++ [ops[j]] := by rw [← h1, ← List.filter_append, List.take_append_drop]
  unfold fromL
  rw [show (ops.filter (wk q)).length - n.toNat = 0 from by omega, List.drop_zero, h2]
  have hp := namesL_prefix b q ((ops.take j).filter (wk q)) [ops[j]]
  have h3 : namesL b q [ops[j]] = [ops[j].tx] := by simp [namesL, dir, hc]
  rw [h3] at hp
  obtain ⟨t, ht⟩ := hp
  exact ⟨t, by rw [← ht]; rfl⟩

end Go.Proofs.Qxb6626002a.Pl
