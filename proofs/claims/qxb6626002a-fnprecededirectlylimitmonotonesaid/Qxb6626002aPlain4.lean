import Derived.Test.Qxb6626002aPlain3
namespace Go.Proofs.Qxb6626002a.Pl
set_option linter.unusedVariables false

def carB (b : Int) (q : Acc) (S : List Acc) : Bool := carryAll b (stS b q 0 [] S).c
theorem carB_iff {b : Int} (hb : 0 ≤ b) (q : Acc) (S : List Acc) : carB b q S = true ↔ CA b q S := carryAll_iff hb S
theorem carryAll_carB {b : Int} (hb : 0 ≤ b) (q : Acc) (r : Int) (zs : List Int) (S : List Acc) : carryAll b (stS b q r zs S).c = carB b q S := by
  rw [Bool.eq_iff_iff, carryAll_iff hb, carB_iff hb]

/-- What a walk over V names under a limit; whether it found all. -/
def fromL (b : Int) (q : Acc) (V : List Acc) (lim : Int) : List Int := namesL b q (V.drop (V.length - lim.toNat))
def foundL (b : Int) (q : Acc) (V : List Acc) (lim : Int) : Bool := decide (V.length ≤ lim.toNat) || carB b q (V.drop (V.length - lim.toNat))

theorem drop_split {α : Type} (V : List α) {i i' : Nat} (h : i ≤ i') : ∃ P, V.drop i = P ++ V.drop i' := by
  refine ⟨(V.drop i).take (i' - i), ?_⟩
  have := (List.take_append_drop (i' - i) (V.drop i)).symm
  rw [List.drop_drop, Nat.add_sub_cancel' h] at this
  exact this

theorem suffix_drop {α : Type} {V : List α} {j : Nat} {p : α} {T : List α} (h : (p :: T) <:+ V.drop j) : ∃ j', j < j' ∧ j' ≤ V.length ∧ T = V.drop j' := by
  obtain ⟨P, hP⟩ := h
  have hl := congrArg List.length hP
  simp at hl
  refine ⟨j + P.length + 1, by omega, by omega, ?_⟩
  have : (V.drop j).drop (P.length + 1) = T := by rw [← hP]; simp
  rw [List.drop_drop] at this
  rw [← this]
  congr 1

theorem stops_res {b : Int} {q : Acc} {r lim : Int} {V : List Acc} {zs : List Int} {j : Nat} (hb : 0 ≤ b) (hz : ∀ z ∈ zs, z < r) (hV : ∀ p ∈ V, 0 ≤ p.tx ∧ p.tx < zs.length)
    (h1 : j ≤ V.length) (h2 : j = 0 ∨ carryAll b (stJ b q r V zs j).c = true ∨ lim < (V.length : Int) - j + 1)
    (h3 : ∀ j', j < j' → j' ≤ V.length → carryAll b (stJ b q r V zs j').c = false ∧ (V.length : Int) - j' + 1 ≤ lim) :
    (stJ b q r V zs j).fs = fromL b q V lim ∧ (decide (j = 0) || carryAll b (stJ b q r V zs j).c) = foundL b q V lim := by
  have hfs : (stJ b q r V zs j).fs = namesL b q (V.drop j) := by
    rw [stJ_stS]
    refine st_fs hb hz _ (fun p hp => hV p (List.mem_of_mem_drop hp)) fun p T hT => ?_
    obtain ⟨j', a1, a2, rfl⟩ := suffix_drop hT
    exact (h3 j' a1 a2).1
  have hnext : j < V.length → (V.length : Int) - j ≤ lim := fun h => by
    have := (h3 (j + 1) (by omega) (by omega)).2
    omega
  rw [hfs, stJ_stS, carryAll_carB hb]
  unfold fromL foundL
  by_cases hz0 : j = 0
  · subst hz0
    have hle : V.length ≤ lim.toNat := by
      by_cases h : 0 < V.length
      · have := hnext h; omega
      · omega
    have e : V.length - lim.toNat = 0 := by omega
    rw [e]
    simp [hle]
  · by_cases hca : carryAll b (stJ b q r V zs j).c = true
    · rw [stJ_stS, carryAll_carB hb] at hca
      have hj0 : V.length - lim.toNat ≤ j := by
        by_cases h : j < V.length
        · have := hnext h; omega
        · omega
      obtain ⟨P, hP⟩ := drop_split V hj0
      have hCA := (carB_iff hb q _).1 hca
      refine ⟨?_, ?_⟩
      · rw [hP, namesL_CA hb P hCA]
      · rw [hca, hP, (carB_iff hb q (P ++ V.drop j)).2 (hCA.suffix fun x hx => List.mem_append_right _ hx)]
        simp
    · have hl : lim < (V.length : Int) - j + 1 := by
        rcases h2 with h | h | h
        · exact (hz0 h).elim
        · exact (hca h).elim
        · exact h
      have e : V.length - lim.toNat = j := by
        by_cases h : j < V.length
        · have := hnext h; omega
        · omega
      rw [e]
      refine ⟨rfl, ?_⟩
      have : ¬ V.length ≤ lim.toNat := by omega
      simp [this, hz0]

/-! ### The model -/
theorem nsRel {b : Int} {q : Acc} (S : List Acc) :
    (S.foldr (nstp b q) ns0).some = (stS b q 0 [] S).c.sm ∧ (S.foldr (nstp b q) ns0).anyDis = (stS b q 0 [] S).c.ds ∧
    ((stS b q 0 [] S).c.ds = false → (S.foldr (nstp b q) ns0).haveVal = (stS b q 0 [] S).c.sm ∧ ((stS b q 0 [] S).c.sm = true → (S.foldr (nstp b q) ns0).lo = (stS b q 0 [] S).c.lo ∧ (S.foldr (nstp b q) ns0).hi = (stS b q 0 [] S).c.hi)) := by
  induction S with
  | nil => simp [stS, ns0]
  | cons p S ih =>
    rw [List.foldr_cons, stS_cons]
    obtain ⟨i1, i2, i3⟩ := ih
    generalize S.foldr (nstp b q) ns0 = s at *
    generalize stS b q 0 [] S = c at *
    unfold nstp stp
    cases hc : carr b p q
    · simp only [Bool.false_eq_true, if_false]
      exact ⟨i1, i2, i3⟩
    · simp only [if_true]
      cases hd : p.dis
      · simp only [Bool.false_eq_true, if_false, addVals]
        cases hs : c.c.sm
        · simp only [Bool.false_eq_true, if_false]
          refine ⟨trivial, i2, fun hds => ⟨trivial, fun _ => ?_⟩⟩
          have := (i3 hds).1
          rw [hs] at this
          simp [this]
        · simp only [if_true]
          refine ⟨trivial, i2, fun hds => ⟨trivial, fun _ => ?_⟩⟩
          obtain ⟨a1, a2⟩ := i3 hds
          obtain ⟨a2, a3⟩ := a2 hs
          rw [hs] at a1
          simp only [a1, Bool.not_true, Bool.false_or, decide_eq_true_eq, a2, a3]
          constructor <;> split <;> omega
      · simp only [if_true, addVals]
        exact ⟨trivial, trivial, fun h => by simp at h⟩

theorem nsRes_carB {b : Int} (hb : 0 ≤ b) (q : Acc) (S : List Acc) (hS : ∀ p ∈ S, p.ok) : nsRes b (S.foldr (nstp b q) ns0) = carB b q S := by
  obtain ⟨i1, i2, i3⟩ := nsRel (b := b) (q := q) S
  have hok : (stS b q 0 [] S).c.ok := by
    have := stJ_ok b q 0 S [] 0 hS
    exact this.1
  unfold nsRes carB carryAll
  rw [i1, i2]
  cases hs : (stS b q 0 [] S).c.sm
  · rfl
  · cases hd : (stS b q 0 [] S).c.ds
    · obtain ⟨_, a⟩ := i3 hd
      obtain ⟨a1, a2⟩ := a hs
      obtain ⟨g0, g1, g2⟩ := hok hs hd
      rw [a1, a2]
      generalize (stS b q 0 [] S).c.lo = lo at *
      generalize (stS b q 0 [] S).c.hi = hi at *
      simp only [Bool.true_and, Bool.false_or]
      rw [Bool.eq_iff_iff]
      simp only [Bool.not_eq_true', Bool.and_eq_false_iff, Bool.or_eq_true, beq_iff_eq, decide_eq_true_eq]
      constructor
      · intro h
        by_cases h0 : b = 0
        · exact .inl h0
        · right
          rcases h with h | h
          · have := fun g => Bool.eq_false_iff.1 h ((near_iff (b := b) (lo + (hi - lo) / 2) lo).2 g)
            apply Classical.byContradiction
            intro hn
            exact this ⟨by omega, by omega, by omega⟩
          · have := fun g => Bool.eq_false_iff.1 h ((near_iff (b := b) (lo + (hi - lo) / 2) hi).2 g)
            apply Classical.byContradiction
            intro hn
            exact this ⟨by omega, by omega, by omega⟩
      · intro h
        by_cases h1 : near b (lo + (hi - lo) / 2) lo = true
        · by_cases h2 : near b (lo + (hi - lo) / 2) hi = true
          · exfalso
            rw [near_iff] at h1 h2
            omega
          · exact .inr (Bool.eq_false_iff.2 h2)
        · exact .inl (Bool.eq_false_iff.2 h1)
    · simp

theorem filter_suffix {α : Type} (f : α → Bool) (ops : List α) (j : Nat) : (ops.drop j).filter f = (ops.filter f).drop ((ops.filter f).length - ((ops.drop j).filter f).length) := by
  have h : ops.filter f = (ops.take j).filter f ++ (ops.drop j).filter f := by rw [← List.filter_append, List.take_append_drop]
  have hl := congrArg List.length h
  rw [List.length_append] at hl
  have e : (ops.filter f).length - ((ops.drop j).filter f).length = ((ops.take j).filter f).length := by omega
  rw [e]
  conv => rhs; rw [h]
  simp

/-- The rank at which zzNoValueSimilar stops. -/
theorem nv_suffix {q : Acc} {ops : List Acc} {win : Int} {j : Nat} (hw : 0 ≤ win) (h1 : j ≤ ops.length) (h2 : j = 0 ∨ win ≤ rkJ q ops j) (h3 : ∀ j', j < j' → j' ≤ ops.length → (rkJ q ops j' : Int) < win) :
    (ops.drop j).filter (wk q) = (ops.filter (wk q)).drop ((ops.filter (wk q)).length - win.toNat) := by
  have hs := filter_suffix (wk q) ops j
  have hrk : ((ops.drop j).filter (wk q)).length = rkJ q ops j := rfl
  have hle : (rkJ q ops j : Int) ≤ win := by
    by_cases h : j < ops.length
    · have hn := h3 (j + 1) (by omega) (by omega)
      cases hk : wk q ops[j]
      · have := (nsJ_out 0 q ops j h hk).2; omega
      · have := (nsJ_in 0 q ops j h hk).2; omega
    · have e : j = ops.length := by omega
      rw [e, rkJ_top]; omega
  rw [hs, hrk]
  rcases h2 with h | h
  · subst h
    have e : rkJ q ops 0 = (ops.filter (wk q)).length := by simp [rkJ]
    rw [e] at hle ⊢
    congr 1
    omega
  · congr 1
    omega

theorem nv_carB {b : Int} {q : Acc} {ops : List Acc} {win : Int} {j : Nat} (hb : 0 ≤ b) (hok : ∀ p ∈ ops, p.ok) (hw : 0 ≤ win) (h1 : j ≤ ops.length) (h2 : j = 0 ∨ win ≤ rkJ q ops j) (h3 : ∀ j', j < j' → j' ≤ ops.length → (rkJ q ops j' : Int) < win) :
    nsRes b (nsJ b q ops j) = carB b q ((ops.filter (wk q)).drop ((ops.filter (wk q)).length - win.toNat)) := by
  rw [← nv_suffix hw h1 h2 h3]
  unfold nsJ
  exact nsRes_carB hb q _ fun p hp => hok p (List.mem_of_mem_drop (List.mem_filter.1 hp).1)

theorem blocked_wk {b : Int} {p q w : Acc} (h : blocked b p q w = true) : wk q w = true := by
  simp only [blocked, carr, Bool.and_eq_true] at h
  simp [wk, h.1.1]

theorem all_filter_wk (b : Int) (p q : Acc) (S : List Acc) : (S.all fun w => !blocked b p q w) = ((S.filter (wk q)).all fun w => !blocked b p q w) := by
  rw [Bool.eq_iff_iff, any_blocked, any_blocked]
  constructor
  · rintro h ⟨w, hw, hb⟩
    exact h ⟨w, (List.mem_filter.1 hw).1, hb⟩
  · rintro h ⟨w, hw, hb⟩
    exact h ⟨w, List.mem_filter.2 ⟨hw, blocked_wk hb⟩, hb⟩

theorem namesL_prefix (b : Int) (q : Acc) (P S : List Acc) : namesL b q S <+: namesL b q (P ++ S) := by
  induction P with
  | nil => exact List.prefix_refl _
  | cons p P ih => exact ih.trans (List.prefix_append _ _)

theorem namesL_len (b : Int) (q : Acc) (S : List Acc) : (namesL b q S).length ≤ S.length := by
  induction S with
  | nil => simp [namesL]
  | cons p S ih =>
    rw [namesL, List.length_append]
    split <;> simp <;> omega

end Go.Proofs.Qxb6626002a.Pl
