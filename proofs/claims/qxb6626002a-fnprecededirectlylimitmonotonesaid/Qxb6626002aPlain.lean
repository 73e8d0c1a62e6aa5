/-
  The plain functions of seat b6626002a: no Go in sight.
-/
namespace Go.Proofs.Qxb6626002a.Pl

/-- One operation: its transaction, whether it writes, the creation time, whether it is similar to none. -/
structure Acc where
  tx : Int
  wr : Bool
  cr : Int
  dis : Bool

/-- It may be reckoned with: the creation time is an int64, and 0 or more unless it is similar to none. -/
def Acc.ok (p : Acc) : Prop := (p.dis = false → 0 ≤ p.cr) ∧ p.cr ≤ 9223372036854775807

def near (b x y : Int) : Bool := decide (0 < b) && (decide (x - y ≤ b) && decide (y - x ≤ b))
def sim (b : Int) (p q : Acc) : Bool := !p.dis && (!q.dis && near b p.cr q.cr)
def conf (b : Int) (p q : Acc) : Bool := (p.tx != q.tx) && ((p.wr || q.wr) && !(q.wr && sim b p q))
def carr (b : Int) (w q : Acc) : Bool := w.wr && ((w.tx == q.tx) || conf b w q)

/-- The write w, later than p, carries p's conflict with q on. -/
def blocked (b : Int) (p q w : Acc) : Bool := carr b w q && ((w.tx == p.tx) || !sim b p w)

/-- What the carriers sum up: whether there is one, whether one is similar to none, the least and the largest creation time. -/
structure Car where
  sm : Bool
  ds : Bool
  lo : Int
  hi : Int

/-- The least and the largest time stand for something: they are in order and in range. -/
def Car.ok (c : Car) : Prop := c.sm = true → c.ds = false → 0 ≤ c.lo ∧ c.lo ≤ c.hi ∧ c.hi ≤ 9223372036854775807

def carryAll (b : Int) (c : Car) : Bool := c.sm && ((b == 0) || (c.ds || decide (b < c.hi - c.lo - b)))
/-- 'has': whether p's transaction is among those that carry. -/
def carry (b : Int) (c : Car) (has : Bool) (p : Acc) : Bool := c.sm && (!(!p.dis && (near b p.cr c.lo && near b p.cr c.hi)) || has)
def addVals (c : Car) (lo hi : Int) (ds : Bool) : Car :=
  if ds then ⟨true, true, c.lo, c.hi⟩ else if c.sm then ⟨true, c.ds, min c.lo lo, max c.hi hi⟩ else ⟨true, c.ds, lo, hi⟩

/-- The walk's state: the carriers, the rounds in which each transaction was last added, the transactions that were named. -/
structure St where
  c : Car
  zs : List Int
  fs : List Int

/-- One operation passed. -/
def stp (b : Int) (q : Acc) (r : Int) (p : Acc) (s : St) : St where
  c := if carr b p q then addVals s.c p.cr p.cr p.dis else s.c
  zs := if carr b p q then s.zs.set p.tx.toNat r else s.zs
  fs := if conf b p q && !carry b s.c (s.zs.getD p.tx.toNat 0 == r) p then s.fs ++ [p.tx] else s.fs

/-- The state when all operations from place j on have been passed, the last first. -/
def stJ (b : Int) (q : Acc) (r : Int) (V : List Acc) (zs : List Int) (j : Nat) : St := (V.drop j).foldr (stp b q r) ⟨⟨false, false, 0, 0⟩, zs, []⟩

theorem stJ_top (b : Int) (q : Acc) (r : Int) (V : List Acc) (zs : List Int) : stJ b q r V zs V.length = ⟨⟨false, false, 0, 0⟩, zs, []⟩ := by simp [stJ]
theorem stJ_step (b : Int) (q : Acc) (r : Int) (V : List Acc) (zs : List Int) (j : Nat) (h : j < V.length) : stJ b q r V zs j = stp b q r V[j] (stJ b q r V zs (j + 1)) := by
  unfold stJ
  rw [List.drop_eq_getElem_cons h]
  rfl

/-- What holds of every state on the way. -/
def St.ok (N : Nat) (s : St) : Prop := s.c.ok ∧ (s.c.ds = true → s.c.sm = true) ∧ s.zs.length = N

theorem addVals_ok (c : Car) (hc : c.ok) (p : Acc) (hp : p.ok) : (addVals c p.cr p.cr p.dis).ok := by
  unfold Car.ok at *
  unfold addVals
  obtain ⟨h1, h2⟩ := hp
  cases hd : p.dis
  · have h1 := h1 hd
    cases hs : c.sm
    · simp; omega
    · simp only [if_false, if_true, Bool.false_eq_true]
      intro _ h
      have := hc hs h
      omega
  · simp

theorem addVals_ds (c : Car) (lo hi : Int) (ds : Bool) : (addVals c lo hi ds).sm = true := by
  unfold addVals
  split
  · rfl
  · split <;> rfl

theorem stp_ok {b : Int} {q : Acc} {r : Int} {p : Acc} {s : St} {N : Nat} (hp : p.ok) (hs : s.ok N) : (stp b q r p s).ok N := by
  obtain ⟨h1, h2, h3⟩ := hs
  unfold stp St.ok
  cases carr b p q
  · exact ⟨h1, h2, h3⟩
  · exact ⟨addVals_ok _ h1 p hp, fun _ => addVals_ds _ _ _ _, by simpa using h3⟩

theorem stJ_ok (b : Int) (q : Acc) (r : Int) (V : List Acc) (zs : List Int) (j : Nat) (hV : ∀ p ∈ V, p.ok) : (stJ b q r V zs j).ok zs.length := by
  unfold stJ
  have hV' : ∀ p ∈ V.drop j, p.ok := fun p h => hV p (List.mem_of_mem_drop h)
  generalize V.drop j = l at *
  induction l with
  | nil => exact ⟨by simp [Car.ok], by simp, rfl⟩
  | cons p l ih => exact stp_ok (hV' p (by simp)) (ih fun p h => hV' p (by simp [h]))

theorem stp_fs (b : Int) (q : Acc) (r : Int) (p : Acc) (s : St) : (stp b q r p s).fs.length ≤ s.fs.length + 1 := by
  unfold stp
  simp only
  split <;> simp

theorem stJ_fs (b : Int) (q : Acc) (r : Int) (V : List Acc) (zs : List Int) (j : Nat) : (stJ b q r V zs j).fs.length ≤ V.length - j := by
  unfold stJ
  rw [← List.length_drop]
  generalize V.drop j = l at *
  induction l with
  | nil => simp
  | cons p l ih =>
    have := stp_fs b q r p (List.foldr (stp b q r) ⟨⟨false, false, 0, 0⟩, zs, []⟩ l)
    simp only [List.foldr_cons, List.length_cons]
    omega

theorem ds_false {b : Int} {c : Car} (h : c.ds = true → c.sm = true) (hc : carryAll b c = false) : c.ds = false := by
  cases hd : c.ds
  · rfl
  · simp [carryAll, h hd, hd] at hc

end Go.Proofs.Qxb6626002a.Pl
