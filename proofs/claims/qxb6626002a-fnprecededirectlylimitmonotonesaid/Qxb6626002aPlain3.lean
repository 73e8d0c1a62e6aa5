import Derived.Test.Qxb6626002aPlain2
namespace Go.Proofs.Qxb6626002a.Pl
set_option linter.unusedVariables false

/-- p, with 'rest' behind it, conflicts with q directly. -/
def dir (b : Int) (q p : Acc) (rest : List Acc) : Bool := conf b p q && rest.all fun w => !blocked b p q w
/-- The transactions of the direct conflicts, the latest first. -/
def namesL (b : Int) (q : Acc) : List Acc → List Int
  | [] => []
  | p :: rest => namesL b q rest ++ if dir b q p rest then [p.tx] else []

def stS (b : Int) (q : Acc) (r : Int) (zs : List Int) (S : List Acc) : St := S.foldr (stp b q r) ⟨⟨false, false, 0, 0⟩, zs, []⟩
theorem stJ_stS (b : Int) (q : Acc) (r : Int) (V : List Acc) (zs : List Int) (j : Nat) : stJ b q r V zs j = stS b q r zs (V.drop j) := rfl

/-- The writes of S that can carry a conflict on to q rule every value out. -/
def CA (b : Int) (q : Acc) (S : List Acc) : Prop :=
  ∃ w ∈ S, carr b w q = true ∧ (b = 0 ∨ w.dis = true ∨ ∃ w' ∈ S, carr b w' q = true ∧ w'.cr + 2 * b < w.cr)

section
variable {b : Int} {q : Acc} {r : Int} {zs : List Int}

theorem stS_cons (p : Acc) (S : List Acc) : stS b q r zs (p :: S) = stp b q r p (stS b q r zs S) := rfl

theorem st_sm (S : List Acc) : (stS b q r zs S).c.sm = true ↔ ∃ w ∈ S, carr b w q = true := by
  induction S with
  | nil => simp [stS]
  | cons p S ih =>
    rw [stS_cons]
    unfold stp
    cases hc : carr b p q
    · simp only [Bool.false_eq_true, if_false, ih, List.mem_cons]
      constructor
      · rintro ⟨w, h1, h2⟩; exact ⟨w, .inr h1, h2⟩
      · rintro ⟨w, rfl | h1, h2⟩
        · rw [hc] at h2; cases h2
        · exact ⟨w, h1, h2⟩
    · simp only [if_true]
      exact ⟨fun _ => ⟨p, by simp, hc⟩, fun _ => addVals_ds _ _ _ _⟩

theorem addVals_dsv (c : Car) (lo hi : Int) (ds : Bool) : (addVals c lo hi ds).ds = (ds || c.ds) := by
  unfold addVals
  cases ds
  · cases c.sm <;> simp
  · simp

theorem st_ds (S : List Acc) : (stS b q r zs S).c.ds = true ↔ ∃ w ∈ S, carr b w q = true ∧ w.dis = true := by
  induction S with
  | nil => simp [stS]
  | cons p S ih =>
    rw [stS_cons]
    unfold stp
    cases hc : carr b p q
    · simp only [Bool.false_eq_true, if_false, ih, List.mem_cons]
      constructor
      · rintro ⟨w, h1, h2⟩; exact ⟨w, .inr h1, h2⟩
      · rintro ⟨w, rfl | h1, h2⟩
        · rw [hc] at h2; cases h2.1
        · exact ⟨w, h1, h2⟩
    · simp only [if_true, addVals_dsv, Bool.or_eq_true, ih, List.mem_cons]
      constructor
      · rintro (h | ⟨w, h1, h2⟩)
        · exact ⟨p, .inl rfl, hc, h⟩
        · exact ⟨w, .inr h1, h2⟩
      · rintro ⟨w, rfl | h1, h2⟩
        · exact .inl h2.2
        · exact .inr ⟨w, h1, h2⟩

theorem st_lohi (S : List Acc) (hd : (stS b q r zs S).c.ds = false) :
    (∀ w ∈ S, carr b w q = true → (stS b q r zs S).c.lo ≤ w.cr ∧ w.cr ≤ (stS b q r zs S).c.hi) ∧
    ((stS b q r zs S).c.sm = true → (∃ w ∈ S, carr b w q = true ∧ w.cr = (stS b q r zs S).c.lo) ∧ ∃ w ∈ S, carr b w q = true ∧ w.cr = (stS b q r zs S).c.hi) := by
  induction S with
  | nil => exact ⟨fun w h => by simp at h, fun h => by simp [stS] at h⟩
  | cons p S ih =>
    rw [stS_cons] at hd ⊢
    cases hc : carr b p q
    · simp only [stp, hc, Bool.false_eq_true, if_false] at hd ⊢
      obtain ⟨h1, h2⟩ := ih hd
      refine ⟨fun w hw hcw => ?_, fun hs => ?_⟩
      · rcases List.mem_cons.1 hw with rfl | hw
        · rw [hc] at hcw; cases hcw
        · exact h1 w hw hcw
      · obtain ⟨⟨w, a, e⟩, w', a', e'⟩ := h2 hs
        exact ⟨⟨w, List.mem_cons_of_mem _ a, e⟩, w', List.mem_cons_of_mem _ a', e'⟩
    · simp only [stp, hc, if_true, addVals_dsv, Bool.or_eq_false_iff] at hd ⊢
      obtain ⟨hpd, hd⟩ := hd
      obtain ⟨h1, h2⟩ := ih hd
      rw [hpd]
      unfold addVals
      simp only [Bool.false_eq_true, if_false]
      cases hs : (stS b q r zs S).c.sm
      · simp only [Bool.false_eq_true, if_false]
        have hno : ∀ w ∈ S, carr b w q = true → False := fun w hw hcw => by
          have := (st_sm (b := b) (q := q) (r := r) (zs := zs) S).2 ⟨w, hw, hcw⟩
          rw [hs] at this; cases this
        refine ⟨fun w hw hcw => ?_, fun _ => ⟨⟨p, by simp, hc, rfl⟩, p, by simp, hc, rfl⟩⟩
        rcases List.mem_cons.1 hw with rfl | hw
        · exact ⟨Int.le_refl _, Int.le_refl _⟩
        · exact (hno w hw hcw).elim
      · simp only [if_true]
        obtain ⟨⟨w1, a1, c1, e1⟩, w2, a2, c2, e2⟩ := h2 hs
        refine ⟨fun w hw hcw => ?_, fun _ => ⟨?_, ?_⟩⟩
        · rcases List.mem_cons.1 hw with rfl | hw
          · omega
          · have := h1 w hw hcw; omega
        · by_cases h : (stS b q r zs S).c.lo ≤ p.cr
          · exact ⟨w1, List.mem_cons_of_mem _ a1, c1, by omega⟩
          · exact ⟨p, by simp, hc, by omega⟩
        · by_cases h : p.cr ≤ (stS b q r zs S).c.hi
          · exact ⟨w2, List.mem_cons_of_mem _ a2, c2, by omega⟩
          · exact ⟨p, by simp, hc, by omega⟩

theorem st_zs_len (S : List Acc) : (stS b q r zs S).zs.length = zs.length := by
  induction S with
  | nil => rfl
  | cons p S ih =>
    rw [stS_cons]
    unfold stp
    simp only
    split
    · rw [List.length_set]; exact ih
    · exact ih

theorem st_zs (hz : ∀ z ∈ zs, z < r) (S : List Acc) (hS : ∀ p ∈ S, 0 ≤ p.tx ∧ p.tx < zs.length) (t : Nat) (ht : t < zs.length) :
    ((stS b q r zs S).zs.getD t 0 == r) = true ↔ ∃ w ∈ S, carr b w q = true ∧ w.tx = t := by
  induction S with
  | nil =>
    have h1 : (stS b q r zs []).zs.getD t 0 = zs[t] := by simp [stS, ht]
    have h2 := hz _ (List.getElem_mem ht)
    simp only [List.not_mem_nil, false_and, exists_false, iff_false, beq_iff_eq, h1]
    omega
  | cons p S ih =>
    have ih := ih fun p hp => hS p (List.mem_cons_of_mem _ hp)
    rw [stS_cons]
    have hp := hS p (by simp)
    cases hc : carr b p q
    · simp only [stp, hc, Bool.false_eq_true, if_false]
      rw [ih]
      constructor
      · rintro ⟨w, h1, h2⟩; exact ⟨w, List.mem_cons_of_mem _ h1, h2⟩
      · rintro ⟨w, h1, h2⟩
        rcases List.mem_cons.1 h1 with rfl | h1
        · rw [hc] at h2; cases h2.1
        · exact ⟨w, h1, h2⟩
    · simp only [stp, hc, if_true]
      by_cases e : p.tx.toNat = t
      · have hl : t < (stS b q r zs S).zs.length := by rw [st_zs_len]; exact ht
        have : ((stS b q r zs S).zs.set p.tx.toNat r).getD t 0 = r := by
          rw [e]; simp [hl]
        rw [this]
        simp only [beq_self_eq_true, true_iff]
        exact ⟨p, by simp, hc, by omega⟩
      · have : ((stS b q r zs S).zs.set p.tx.toNat r).getD t 0 = (stS b q r zs S).zs.getD t 0 := by
          simp [e]
        rw [this, ih]
        constructor
        · rintro ⟨w, h1, h2⟩; exact ⟨w, List.mem_cons_of_mem _ h1, h2⟩
        · rintro ⟨w, h1, h2⟩
          rcases List.mem_cons.1 h1 with rfl | h1
          · exfalso; omega
          · exact ⟨w, h1, h2⟩

theorem st_zs_bound (hz : ∀ z ∈ zs, z < r) (S : List Acc) : ∀ z ∈ (stS b q r zs S).zs, z < r + 1 := by
  induction S with
  | nil => intro z h; have := hz z h; omega
  | cons p S ih =>
    rw [stS_cons]
    unfold stp
    simp only
    split
    · intro z h
      rcases List.mem_or_eq_of_mem_set h with h | h
      · exact ih z h
      · omega
    · exact ih

/-- 'carryAll' is what it says. -/
theorem carryAll_iff (hb : 0 ≤ b) (S : List Acc) : carryAll b (stS b q r zs S).c = true ↔ CA b q S := by
  unfold carryAll CA
  simp only [Bool.and_eq_true, Bool.or_eq_true, beq_iff_eq, decide_eq_true_eq]
  constructor
  · rintro ⟨hs, h⟩
    obtain ⟨w, hw, hc⟩ := (st_sm S).1 hs
    rcases h with h | h | h
    · exact ⟨w, hw, hc, .inl h⟩
    · obtain ⟨w, hw, hc, hd⟩ := (st_ds S).1 h
      exact ⟨w, hw, hc, .inr (.inl hd)⟩
    · cases hd : (stS b q r zs S).c.ds
      · obtain ⟨⟨w1, a1, c1, e1⟩, w2, a2, c2, e2⟩ := (st_lohi S hd).2 hs
        exact ⟨w2, a2, c2, .inr (.inr ⟨w1, a1, c1, by omega⟩)⟩
      · obtain ⟨w, hw, hc, hd⟩ := (st_ds S).1 hd
        exact ⟨w, hw, hc, .inr (.inl hd)⟩
  · rintro ⟨w, hw, hc, h⟩
    have hs := (st_sm (r := r) (zs := zs) S).2 ⟨w, hw, hc⟩
    refine ⟨hs, ?_⟩
    rcases h with h | h | ⟨w', hw', hc', h⟩
    · exact .inl h
    · exact .inr (.inl ((st_ds S).2 ⟨w, hw, hc, h⟩))
    · cases hd : (stS b q r zs S).c.ds
      · have h1 := (st_lohi S hd).1 w hw hc
        have h2 := (st_lohi S hd).1 w' hw' hc'
        exact .inr (.inr (by omega))
      · exact .inr (.inl rfl)

theorem CA.suffix {S S' : List Acc} (h : CA b q S) (hs : ∀ p ∈ S, p ∈ S') : CA b q S' := by
  obtain ⟨w, hw, hc, h⟩ := h
  refine ⟨w, hs w hw, hc, ?_⟩
  rcases h with h | h | ⟨w', hw', hc', h⟩
  · exact .inl h
  · exact .inr (.inl h)
  · exact .inr (.inr ⟨w', hs w' hw', hc', h⟩)

theorem near_iff (x y : Int) : near b x y = true ↔ 0 < b ∧ x - y ≤ b ∧ y - x ≤ b := by simp [near]

/-- 'carry', asked while nothing is ruled out, is 'some later write carries it on'. -/
theorem carry_iff (hz : ∀ z ∈ zs, z < r) (S : List Acc) (hS : ∀ p ∈ S, 0 ≤ p.tx ∧ p.tx < zs.length) (hd : (stS b q r zs S).c.ds = false) (p : Acc) (hp : 0 ≤ p.tx ∧ p.tx < zs.length) :
    carry b (stS b q r zs S).c ((stS b q r zs S).zs.getD p.tx.toNat 0 == r) p = true ↔ ∃ w ∈ S, blocked b p q w = true := by
  unfold carry
  simp only [Bool.and_eq_true, Bool.or_eq_true]
  rw [st_zs hz S hS p.tx.toNat (by omega)]
  have hnd : ∀ w ∈ S, carr b w q = true → w.dis = false := fun w hw hc => by
    cases h : w.dis
    · rfl
    · have := (st_ds (r := r) (zs := zs) S).2 ⟨w, hw, hc, h⟩
      rw [hd] at this; cases this
  constructor
  · rintro ⟨hs, h⟩
    rcases h with h | ⟨w, hw, hc, e⟩
    · obtain ⟨⟨w1, a1, c1, e1⟩, w2, a2, c2, e2⟩ := (st_lohi S hd).2 hs
      by_cases h1 : sim b p w1 = true
      · by_cases h2 : sim b p w2 = true
        · exfalso
          simp only [sim, Bool.and_eq_true, Bool.not_eq_true'] at h1 h2
          rw [← e1, ← e2, h1.1, h1.2.2, h2.2.2] at h
          simp at h
        · exact ⟨w2, a2, by simp only [blocked, c2]; simp [Bool.eq_false_iff.2 h2]⟩
      · exact ⟨w1, a1, by simp only [blocked, c1]; simp [Bool.eq_false_iff.2 h1]⟩
    · exact ⟨w, hw, by simp only [blocked, hc]; simp; left; omega⟩
  · rintro ⟨w, hw, h⟩
    simp only [blocked, Bool.and_eq_true, Bool.or_eq_true, beq_iff_eq, Bool.not_eq_true'] at h
    obtain ⟨hc, h⟩ := h
    have hs := (st_sm (r := r) (zs := zs) S).2 ⟨w, hw, hc⟩
    refine ⟨hs, ?_⟩
    rcases h with h | h
    · exact .inr ⟨w, hw, hc, by omega⟩
    · left
      have hlh := (st_lohi S hd).1 w hw hc
      cases hpd : p.dis
      · simp only [Bool.not_false, Bool.true_and, Bool.not_eq_true', Bool.and_eq_false_iff]
        by_cases h1 : near b p.cr (stS b q r zs S).c.lo = true
        · by_cases h2 : near b p.cr (stS b q r zs S).c.hi = true
          · exfalso
            rw [near_iff] at h1 h2
            have : near b p.cr w.cr = true := (near_iff _ _).2 ⟨h1.1, by omega, by omega⟩
            simp [sim, hpd, hnd w hw hc, this] at h
          · exact .inr (Bool.eq_false_iff.2 h2)
        · exact .inl (Bool.eq_false_iff.2 h1)
      · simp

theorem any_blocked (p : Acc) (S : List Acc) : (S.all fun w => !blocked b p q w) = true ↔ ¬ ∃ w ∈ S, blocked b p q w = true := by
  simp only [List.all_eq_true, Bool.not_eq_true']
  constructor
  · rintro h ⟨w, hw, h'⟩
    rw [h w hw] at h'; cases h'
  · intro h w hw
    cases h' : blocked b p q w
    · rfl
    · exact (h ⟨w, hw, h'⟩).elim

/-- As long as nothing is ruled out, what was named is the direct conflicts. -/
theorem st_fs (hb : 0 ≤ b) (hz : ∀ z ∈ zs, z < r) : ∀ (S : List Acc) (hS : ∀ p ∈ S, 0 ≤ p.tx ∧ p.tx < zs.length), (∀ p T, (p :: T) <:+ S → carryAll b (stS b q r zs T).c = false) → (stS b q r zs S).fs = namesL b q S := by
  intro S
  induction S with
  | nil => intro _ _; rfl
  | cons p S ih =>
    intro hS hca
    have hS' : ∀ p ∈ S, 0 ≤ p.tx ∧ p.tx < zs.length := fun p hp => hS p (List.mem_cons_of_mem _ hp)
    have ih := ih hS' fun p' T h => hca p' T (h.trans (List.suffix_cons _ _))
    have hc := hca p S (List.suffix_refl _)
    have hd : (stS b q r zs S).c.ds = false := by
      cases h : (stS b q r zs S).c.ds
      · rfl
      · have := (carryAll_iff (r := r) (zs := zs) hb S).2 (by
          obtain ⟨w, hw, hc, hd⟩ := (st_ds S).1 h
          exact ⟨w, hw, hc, .inr (.inl hd)⟩)
        rw [hc] at this; cases this
    have hcy := carry_iff hz S hS' hd p (hS p (by simp))
    rw [stS_cons]
    have e : (conf b p q && !carry b (stS b q r zs S).c ((stS b q r zs S).zs.getD p.tx.toNat 0 == r) p) = dir b q p S := by
      unfold dir
      congr 1
      rw [Bool.eq_iff_iff, any_blocked, ← hcy]
      simp
    show (if (conf b p q && !carry b (stS b q r zs S).c ((stS b q r zs S).zs.getD p.tx.toNat 0 == r) p) = true then (stS b q r zs S).fs ++ [p.tx] else (stS b q r zs S).fs) = namesL b q S ++ if dir b q p S then [p.tx] else []
    rw [e, ih]
    split <;> simp

/-- Behind a list that rules every value out nothing conflicts directly. -/
theorem dir_CA (hb : 0 ≤ b) {S : List Acc} (h : CA b q S) (p : Acc) : dir b q p S = false := by
  rw [Bool.eq_false_iff]
  intro hd
  simp only [dir, Bool.and_eq_true] at hd
  have hno := (any_blocked p S).1 hd.2
  obtain ⟨w, hw, hc, h⟩ := h
  have hsim : ∀ w ∈ S, carr b w q = true → sim b p w = true := fun w hw hc => by
    cases h : sim b p w
    · exact (hno ⟨w, hw, by simp [blocked, hc, h]⟩).elim
    · rfl
  have h1 := hsim w hw hc
  simp only [sim, Bool.and_eq_true, Bool.not_eq_true', near_iff] at h1
  rcases h with h | h | ⟨w', hw', hc', h⟩
  · omega
  · rw [h1.2.1] at h; cases h
  · have h2 := hsim w' hw' hc'
    simp only [sim, Bool.and_eq_true, Bool.not_eq_true', near_iff] at h2
    omega

theorem namesL_CA (hb : 0 ≤ b) (P : List Acc) {S : List Acc} (h : CA b q S) : namesL b q (P ++ S) = namesL b q S := by
  induction P with
  | nil => rfl
  | cons p P ih =>
    rw [List.cons_append, namesL, ih, dir_CA hb (h.suffix fun x hx => List.mem_append_right _ hx)]
    simp

end
end Go.Proofs.Qxb6626002a.Pl
