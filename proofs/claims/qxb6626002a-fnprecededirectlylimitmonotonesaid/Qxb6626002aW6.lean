import Derived.Test.Qxb6626002aW5
import Derived.Deep.DeepCutAuto
namespace Go.Proofs.Qxb6626002a
open Go.RowKit
set_option linter.unusedVariables false

def accL (p : Pl.Acc) : List Value := [.int .i64 p.tx, .bool p.wr, .int .i64 p.cr, .bool p.dis]
def accs (ops : List Pl.Acc) : Array Value := (ops.flatMap accL).toArray
def logC (b : Int) (O n : Nat) (wv : Value) (T : Nat) : Array Value := #[.int .i64 b, .slice (some ⟨O, 0, none⟩) n n, wv, .pointer (some ⟨T, 0, none⟩)]

theorem flat_get (ops : List Pl.Acc) : ∀ (i j : Nat), (h : i < ops.length) → j < 4 → (ops.flatMap accL)[i * 4 + j]? = (accL ops[i])[j]? := by
  induction ops with
  | nil => intro i j h; simp at h
  | cons p ops ih =>
    intro i j h hj
    rw [List.flatMap_cons]
    match i with
    | 0 => rw [Nat.zero_mul, Nat.zero_add, List.getElem?_append_left (by simp [accL]; omega)]; rfl
    | i + 1 =>
      rw [List.getElem?_append_right (by simp [accL]; omega)]
      have e : (i + 1) * 4 + j - (accL p).length = i * 4 + j := by simp [accL]; omega
      rw [e, ih i j (by simpa using h) hj]
      rfl
theorem accs_get (ops : List Pl.Acc) (i j : Nat) (h : i < ops.length) (hj : j < 4) : (accs ops)[i * 4 + j]? = (accL ops[i])[j]? := by
  simpa [accs] using flat_get ops i j h hj

/-- The blocks that precedeDirectly's walk is about. -/
structure Blocks where
  L : Nat
  T : Nat
  A : Nat
  N : Nat
  O : Nat
  M : Nat
  Q : Nat
  C : Nat
  F : Nat
  G : Nat

/-- What is fixed. -/
structure Fix where
  b : Int
  q : Pl.Acc
  r : Int
  lim : Int
  V : List Pl.Acc
  ops : List Pl.Acc
  zs : List Int
  wv : Value
  pcs : Array Value

def Fix.st (X : Fix) (j : Nat) : Pl.St := Pl.stJ X.b X.q X.r X.V X.zs j

/-- What holds at the head of each round of precedeDirectly's walk. -/
structure PInv (X : Fix) (B : Blocks) (w : World) (j : Nat) (v u : Value) (wr : World) : Prop where
  hL : Blk wr B.L (logC X.b B.O X.ops.length X.wv B.T) 50
  hT : Blk wr B.T (setC B.A B.N X.r) 48
  hA : Blk wr B.A (ints (X.st j).zs) 3
  hC : Blk wr B.C (carC B.T (X.st j).c) 55
  hO : Blk wr B.O (accs X.ops) 45
  hM : Blk wr B.M X.pcs 3
  hQ : Blk wr B.Q (accs [X.q]) 45
  hF : Blk wr B.F #[v] 22
  hG : Blk wr B.G #[u] 22
  hv : Own wr (B.C + 1) v (X.st j).fs
  hu : Own wr (B.C + 1) u (List.replicate (X.st j).fs.length X.q.tx)
  ap : Apart v u
  keep : Keep (fun k => k = B.T ∨ k = B.A ∨ k = B.F ∨ k = B.G) w wr
  went : ∀ j', j < j' → j' ≤ X.V.length → Pl.carryAll X.b (X.st j').c = false ∧ (X.V.length : Int) - j' + 1 ≤ X.lim

/-- The blocks lie apart; all but the carriers' block lie below it. -/
structure Apt (B : Blocks) : Prop where
  lt : B.L < B.C ∧ B.T < B.C ∧ B.A < B.C ∧ B.O < B.C ∧ B.M < B.C ∧ B.Q < B.C ∧ B.F < B.C ∧ B.G < B.C
  tA : B.T ≠ B.A
  tF : B.T ≠ B.F
  tG : B.T ≠ B.G
  aF : B.A ≠ B.F
  aG : B.A ≠ B.G
  fG : B.F ≠ B.G
  lx : B.L ≠ B.T ∧ B.L ≠ B.A ∧ B.L ≠ B.F ∧ B.L ≠ B.G
  ox : B.O ≠ B.T ∧ B.O ≠ B.A ∧ B.O ≠ B.F ∧ B.O ≠ B.G
  mx : B.M ≠ B.T ∧ B.M ≠ B.A ∧ B.M ≠ B.F ∧ B.M ≠ B.G
  qx : B.Q ≠ B.T ∧ B.Q ≠ B.A ∧ B.Q ≠ B.F ∧ B.Q ≠ B.G

/-- No old memory has turned: the invariant stands. -/
theorem PInv.non {X : Fix} {B : Blocks} {w : World} {j : Nat} {v u : Value} {wr wr' : World} (I : PInv X B w j v u wr) (k : Keep Non wr wr') : PInv X B w j v u wr' :=
  ⟨I.hL.non k, I.hT.non k, I.hA.non k, I.hC.non k, I.hO.non k, I.hM.non k, I.hQ.non k, I.hF.non k, I.hG.non k, I.hv.keep k fun _ _ e => e, I.hu.keep k fun _ _ e => e, I.ap, I.keep.non k, I.went⟩

/-- An operation has been named (or not). -/
structure Named (X : Fix) (B : Blocks) (w : World) (j : Nat) (fs : List Int) (v u : Value) (wr : World) : Prop where
  hL : Blk wr B.L (logC X.b B.O X.ops.length X.wv B.T) 50
  hT : Blk wr B.T (setC B.A B.N X.r) 48
  hA : Blk wr B.A (ints (X.st j).zs) 3
  hC : Blk wr B.C (carC B.T (X.st j).c) 55
  hO : Blk wr B.O (accs X.ops) 45
  hM : Blk wr B.M X.pcs 3
  hQ : Blk wr B.Q (accs [X.q]) 45
  hF : Blk wr B.F #[v] 22
  hG : Blk wr B.G #[u] 22
  hv : Own wr (B.C + 1) v fs
  hu : Own wr (B.C + 1) u (List.replicate fs.length X.q.tx)
  ap : Apart v u
  keep : Keep (fun k => k = B.T ∨ k = B.A ∨ k = B.F ∨ k = B.G) w wr

theorem PInv.named0 {X : Fix} {B : Blocks} {w : World} {j : Nat} {v u : Value} {wr wr' : World} (I : PInv X B w j v u wr) (k : Keep Non wr wr') : Named X B w j (X.st j).fs v u wr' :=
  have I := I.non k
  ⟨I.hL, I.hT, I.hA, I.hC, I.hO, I.hM, I.hQ, I.hF, I.hG, I.hv, I.hu, I.ap, I.keep⟩

theorem PInv.named1 {X : Fix} {B : Blocks} (D : Apt B) {w : World} (hwC : w.heap.size ≤ B.C) {j : Nat} {v u : Value} {wr wr' : World} (I : PInv X B w j v u wr) {v' u' : Value} {f : Int}
    (hF : Blk wr' B.F #[v'] 22) (hG : Blk wr' B.G #[u'] 22) (hv : Own wr' (B.C + 1) v' ((X.st j).fs ++ [f])) (hu : Own wr' (B.C + 1) u' (List.replicate (X.st j).fs.length X.q.tx ++ [X.q.tx])) (ap : Apart v' u')
    (k : Keep (fun k => k = B.F ∨ k = B.G ∨ v.ownBlock = some k ∨ u.ownBlock = some k) wr wr') : Named X B w j ((X.st j).fs ++ [f]) v' u' wr' := by
  have hv0 := I.hv.lt
  have hu0 := I.hu.lt
  have far : ∀ x, x ≤ B.C → x ≠ B.F → x ≠ B.G → ¬ (x = B.F ∨ x = B.G ∨ v.ownBlock = some x ∨ u.ownBlock = some x) := by
    rintro x hx n1 n2 (h | h | h | h)
    · exact n1 h
    · exact n2 h
    · have := hv0 x h; omega
    · have := hu0 x h; omega
  have lt := D.lt
  refine ⟨I.hL.keep k (far _ (by omega) D.lx.2.2.1 D.lx.2.2.2), I.hT.keep k (far _ (by omega) D.tF D.tG), I.hA.keep k (far _ (by omega) D.aF D.aG), I.hC.keep k (far _ (by omega) (by omega) (by omega)),
    I.hO.keep k (far _ (by omega) D.ox.2.2.1 D.ox.2.2.2), I.hM.keep k (far _ (by omega) D.mx.2.2.1 D.mx.2.2.2), I.hQ.keep k (far _ (by omega) D.qx.2.2.1 D.qx.2.2.2), hF, hG, hv, ?_, ap, I.keep.then k ?_⟩
  · have e : List.replicate ((X.st j).fs ++ [f]).length X.q.tx = List.replicate (X.st j).fs.length X.q.tx ++ [X.q.tx] := by simp [List.replicate_succ']
    rw [e]; exact hu
  · rintro i hi (h | h | h | h)
    · exact .inr (.inr (.inl h))
    · exact .inr (.inr (.inr h))
    · have := hv0 i h; omega
    · have := hu0 i h; omega

theorem Named.non {X : Fix} {B : Blocks} {w : World} {j : Nat} {fs : List Int} {v u : Value} {wr wr' : World} (I : Named X B w j fs v u wr) (k : Keep Non wr wr') : Named X B w j fs v u wr' :=
  ⟨I.hL.non k, I.hT.non k, I.hA.non k, I.hC.non k, I.hO.non k, I.hM.non k, I.hQ.non k, I.hF.non k, I.hG.non k, I.hv.keep k fun _ _ e => e, I.hu.keep k fun _ _ e => e, I.ap, I.keep.non k⟩

/-- The round's end: nothing was added. -/
theorem Named.skip {X : Fix} {B : Blocks} {w : World} {j : Nat} {fs : List Int} {v u : Value} {wr : World} (I : Named X B w (j + 1) fs v u wr) (hz : (X.st j).zs = (X.st (j + 1)).zs) (hc : (X.st j).c = (X.st (j + 1)).c) (hf : (X.st j).fs = fs)
    (hw : ∀ j', j < j' → j' ≤ X.V.length → Pl.carryAll X.b (X.st j').c = false ∧ (X.V.length : Int) - j' + 1 ≤ X.lim) : PInv X B w j v u wr :=
  ⟨I.hL, I.hT, by rw [hz]; exact I.hA, by rw [hc]; exact I.hC, I.hO, I.hM, I.hQ, I.hF, I.hG, by rw [hf]; exact I.hv, by rw [hf]; exact I.hu, I.ap, I.keep, hw⟩

/-- The round's end: the operation was added to the carriers. -/
theorem Named.added {X : Fix} {B : Blocks} (D : Apt B) {w : World} (hwC : w.heap.size ≤ B.C) {j : Nat} {fs : List Int} {v u : Value} {wr wr' : World} (I : Named X B w (j + 1) fs v u wr) (hA : Blk wr' B.A (ints (X.st j).zs) 3) (hC : Blk wr' B.C (carC B.T (X.st j).c) 55)
    (k : Keep (fun k => k = B.C ∨ k = B.A) wr wr') (hf : (X.st j).fs = fs)
    (hw : ∀ j', j < j' → j' ≤ X.V.length → Pl.carryAll X.b (X.st j').c = false ∧ (X.V.length : Int) - j' + 1 ≤ X.lim) : PInv X B w j v u wr' := by
  have lt := D.lt
  have far : ∀ x, x ≠ B.C → x ≠ B.A → ¬ (x = B.C ∨ x = B.A) := fun x h1 h2 h => h.elim h1 h2
  have hv0 := I.hv.lt
  have hu0 := I.hu.lt
  refine ⟨I.hL.keep k (far _ (by omega) D.lx.2.1), I.hT.keep k (far _ (by omega) D.tA), hA, hC, I.hO.keep k (far _ (by omega) D.ox.2.1), I.hM.keep k (far _ (by omega) D.mx.2.1), I.hQ.keep k (far _ (by omega) D.qx.2.1),
    I.hF.keep k (far _ (by omega) D.aF.symm), I.hG.keep k (far _ (by omega) D.aG.symm), ?_, ?_, I.ap, I.keep.then k ?_, hw⟩
  · rw [hf]; exact I.hv.keep k fun x hx => by have := hv0 x hx; exact far _ (by omega) (by omega)
  · rw [hf]; exact I.hu.keep k fun x hx => by have := hu0 x hx; exact far _ (by omega) (by omega)
  · rintro i hi (h | h)
    · omega
    · exact .inr (.inl h)

theorem hconf_val {b : Int} {L : Nat} {pt qt : Int} {pw qw : Bool} {pc qc : Int} {pd qd : Bool} {w : World} (c : Bool) (hc : Pl.conf b ⟨pt, pw, pc, pd⟩ ⟨qt, qw, qc, qd⟩ = c) (hp : Pl.Acc.ok ⟨pt, pw, pc, pd⟩) (hq : Pl.Acc.ok ⟨qt, qw, qc, qd⟩)
    (hb : w.cell? ⟨L, 0, none⟩ = some (.int .i64 b)) :
    Calls Try.prog 24 #[.pointer (some ⟨L, 0, none⟩), .agg #[.int .i64 pt, .bool pw, .int .i64 pc, .bool pd], .agg #[.int .i64 qt, .bool qw, .int .i64 qc, .bool qd]] w fun e w' =>
      e = .returned (.bool c) ∧ Keep Non w w' := by
  subst hc
  exact (hconf_any b L pt qt pw qw pc qc pd qd w hp hq hb).mono fun e w' ⟨h1, h2⟩ => ⟨h1, Keep.of_below h2⟩

theorem carry_val {b : Int} {C T A N : Nat} {c : Pl.Car} {pt : Nat} {pw : Bool} {pc : Int} {pd : Bool} {zs : List Int} {r : Int} {w : World} (y : Bool) (hy : Pl.carry b c (zs.getD pt 0 == r) ⟨pt, pw, pc, pd⟩ = y)
    (hCb : Blk w C (carC T c) 55) (hT : Blk w T (setC A N r) 48) (hA : Blk w A (ints zs) 3) (hN : zs.length = N) (ht : pt < N) (ho : c.ok) (hds : c.ds = false) (hp : Pl.Acc.ok ⟨pt, pw, pc, pd⟩) :
    Calls Try.prog 25 #[.pointer (some ⟨C, 0, none⟩), .int .i64 b, .agg #[.int .i64 pt, .bool pw, .int .i64 pc, .bool pd]] w fun e w' => e = .returned (.bool y) ∧ Keep Non w w' := by
  subst hy
  exact carry_any b C T A N c pt pw pc pd zs r w hCb hT hA hN ht ho hds hp

end Go.Proofs.Qxb6626002a
