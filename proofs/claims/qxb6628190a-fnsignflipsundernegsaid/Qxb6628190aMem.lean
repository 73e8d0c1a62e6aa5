/-
  Small words on memory for seat b6628190a: 'Keep S w w'' (all but the blocks in S is as it was; new blocks may have come), 'Blk' (a block known whole).
-/
import Derived.WalkKit
import Derived.WalkSpells
import Derived.WalkLawsBesides
import Derived.Deep.Draws
import Derived.Deep.QuietTactic
import Derived.BigQuiet
namespace Go.Proofs.Qxb6628190a
open Go.RowKit

structure Keep (S : Nat → Prop) (w w' : World) : Prop where
  os : w'.os = w.os
  tape : w'.tape = w.tape
  output : w'.output = w.output
  size : w.heap.size ≤ w'.heap.size
  block : ∀ k, k < w.heap.size → ¬ S k → w'.heap[k]? = w.heap[k]?

/-- No block is written. -/
def Non : Nat → Prop := fun _ => False

theorem Keep.refl (S : Nat → Prop) (w : World) : Keep S w w := ⟨rfl, rfl, rfl, Nat.le_refl _, fun _ _ _ => rfl⟩

theorem Keep.then {S S' : Nat → Prop} {a b c : World} (h : Keep S a b) (k : Keep S' b c) (hs : ∀ i, i < a.heap.size → S' i → S i) : Keep S a c :=
  ⟨k.os.trans h.os, k.tape.trans h.tape, k.output.trans h.output, Nat.le_trans h.size k.size, fun i hi hn => (k.block i (Nat.lt_of_lt_of_le hi h.size) (fun e => hn (hs i hi e))).trans (h.block i hi hn)⟩

theorem Keep.trans {S : Nat → Prop} {a b c : World} (h : Keep S a b) (k : Keep S b c) : Keep S a c := h.then k fun _ _ e => e
theorem Keep.non {S : Nat → Prop} {a b c : World} (h : Keep S a b) (k : Keep Non b c) : Keep S a c := h.then k fun _ _ e => e.elim
theorem Keep.mono {S S' : Nat → Prop} {a b : World} (h : Keep S a b) (hs : ∀ i, i < a.heap.size → S i → S' i) : Keep S' a b :=
  ⟨h.os, h.tape, h.output, h.size, fun i hi hn => h.block i hi (fun e => hn (hs i hi e))⟩
theorem Keep.of_non {S : Nat → Prop} {a b : World} (h : Keep Non a b) : Keep S a b := h.mono fun _ _ e => e.elim
theorem Keep.drew {S : Nat → Prop} {a b : World} (h : Keep S a b) : Keep S a b.drew := ⟨h.os, h.tape, h.output, h.size, h.block⟩
theorem Keep.drewN {S : Nat → Prop} {a b : World} (h : Keep S a b) (n : Nat) : Keep S a (b.drewN n) := ⟨h.os, h.tape, h.output, h.size, h.block⟩
theorem Keep.alloc {S : Nat → Prop} {a b : World} (h : Keep S a b) (o : Obj) : Keep S a (b.alloc o) :=
  h.then (S' := S) ⟨rfl, rfl, rfl, by simp, fun k hk _ => Below.heap_alloc b o k hk⟩ fun _ _ e => e
theorem Keep.setCell {S : Nat → Prop} {a b : World} (h : Keep S a b) (p : Addr) (v : Value) (hp : p.block < a.heap.size → S p.block) : Keep S a (b.setCell p v) :=
  h.then (S' := fun k => k = p.block) ⟨rfl, rfl, rfl, by simp [World.setCell], fun k hk hn => heap_setCell_other b p k v hn⟩ fun i hi e => by subst e; exact hp hi
theorem Keep.of_below {a b : World} (h : Below a.heap.size a b) : Keep Non a b := ⟨h.os, h.tape, h.output, h.size, fun k hk _ => h.block k hk⟩
theorem Keep.below {S : Nat → Prop} {a b : World} (h : Keep S a b) (hs : ∀ k, k < a.heap.size → ¬ S k) : Below a.heap.size a b := ⟨h.os, h.tape, h.output, h.size, fun k hk => h.block k hk (hs k hk)⟩
theorem Keep.of_grown {a b : World} {row : Option Nat} (h : a.grownBy b row) : Keep (fun k => some k = row) a b := ⟨h.os, h.tape, h.output, h.size, h.block⟩
theorem Keep.cell {S : Nat → Prop} {a b : World} (h : Keep S a b) {p : Addr} (hp : p.block < a.heap.size) (hn : ¬ S p.block) : b.cell? p = a.cell? p := World.cell?_of_block (w := a) (h.block p.block hp hn)
theorem Keep.frozen {S : Nat → Prop} {a b : World} (h : Keep S a b) {p : Addr} (hp : p.block < a.heap.size) (hn : ¬ S p.block) : b.frozen? p = a.frozen? p := World.frozen?_of_block (w := a) (h.block p.block hp hn)

theorem keep1 (w : World) (C : Nat) (a : Value) (i : Nat) : Keep (fun k => k = C) w (w.setCell ⟨C, i, none⟩ a) := (Keep.refl _ w).setCell _ _ fun _ => rfl
theorem keep2 (w : World) (C : Nat) (a b : Value) (i j : Nat) : Keep (fun k => k = C) w ((w.setCell ⟨C, i, none⟩ a).setCell ⟨C, j, none⟩ b) := (keep1 w C a i).setCell _ _ fun _ => rfl
theorem keep3 (w : World) (C : Nat) (a b c : Value) (i j k : Nat) : Keep (fun k => k = C) w (((w.setCell ⟨C, i, none⟩ a).setCell ⟨C, j, none⟩ b).setCell ⟨C, k, none⟩ c) := (keep2 w C a b i j).setCell _ _ fun _ => rfl

/-- The block b is known whole: its cells are cs, none is frozen. -/
def Blk (w : World) (b : Nat) (cs : Array Value) (t : TypeId) : Prop := w.heap[b]? = some (.cells cs t (0, 0))

theorem Blk.lt {w : World} {b : Nat} {cs : Array Value} {t : TypeId} (h : Blk w b cs t) : b < w.heap.size := (Array.getElem?_eq_some_iff.1 h).1
theorem Blk.cell {w : World} {b : Nat} {cs : Array Value} {t : TypeId} (h : Blk w b cs t) (i : Nat) : w.cell? ⟨b, i, none⟩ = cs[i]? := cell_of_row w b i cs t (0, 0) h
theorem Blk.frozen {w : World} {b : Nat} {cs : Array Value} {t : TypeId} (h : Blk w b cs t) (i : Nat) : w.frozen? ⟨b, i, none⟩ = false := frozen_of_row w b i cs t h
theorem Blk.set {w : World} {b : Nat} {cs : Array Value} {t : TypeId} (h : Blk w b cs t) (i : Nat) (v : Value) : Blk (w.setCell ⟨b, i, none⟩ v) b (cs.setIfInBounds i v) t := heap_setCell_same w b i cs t v h
theorem Blk.set_other {w : World} {b : Nat} {cs : Array Value} {t : TypeId} (h : Blk w b cs t) (p : Addr) (v : Value) (hp : b ≠ p.block) : Blk (w.setCell p v) b cs t := (heap_setCell_other w p b v hp).trans h
theorem Blk.keep {S : Nat → Prop} {w w' : World} {b : Nat} {cs : Array Value} {t : TypeId} (h : Blk w b cs t) (k : Keep S w w') (hs : ¬ S b) : Blk w' b cs t := (k.block b h.lt hs).trans h
theorem Blk.non {w w' : World} {b : Nat} {cs : Array Value} {t : TypeId} (h : Blk w b cs t) (k : Keep Non w w') : Blk w' b cs t := h.keep k fun e => e
theorem Blk.alloc {w : World} {b : Nat} {cs : Array Value} {t : TypeId} (h : Blk w b cs t) (o : Obj) : Blk (w.alloc o) b cs t := h.non ((Keep.refl _ _).alloc o)
theorem Blk.new (w : World) (cs : Array Value) (t : TypeId) : Blk (w.alloc (.cells cs t)) w.heap.size cs t := Go.heap_alloc_new w _
theorem Blk.new' (w : World) (cs : Array Value) (t : TypeId) (B : Nat) (hB : w.heap.size = B) : Blk (w.alloc (.cells cs t)) B cs t := by subst hB; exact Blk.new w cs t
theorem Blk.drew {w : World} {b : Nat} {cs : Array Value} {t : TypeId} (h : Blk w b cs t) : Blk w.drew b cs t := h
theorem Blk.drewN {w : World} {b : Nat} {cs : Array Value} {t : TypeId} (h : Blk w b cs t) (n : Nat) : Blk (w.drewN n) b cs t := h

/-- A world that is w0 but for draws and new blocks. -/
structure Later (w0 : World) where
  w : World
  k : Keep Non w0 w

theorem later_cell {w0 : World} {p : Addr} {v : Value} (h : w0.cell? p = some v) : ∀ x : Later w0, x.w.cell? p = some v := fun x => (x.k.cell (World.block_lt_of_cell? _ _ h) fun e => e).trans h

/-- A callee that leaves all old memory alone. -/
theorem later_call {P : Program} {f : FuncId} {args : Array Value} {w0 : World} {x : Later w0} {v : Value} (h : Calls P f args x.w fun e w' => e = .returned v ∧ Keep Non x.w w') :
    Calls P f args x.w fun e w'' => e = .returned v ∧ ∃ y : Later w0, w'' = y.w := h.mono fun _ w' ⟨he, k⟩ => ⟨he, ⟨w', x.k.non k⟩, rfl⟩

/-- A region that draws its order and whose operations and callees leave all old memory alone: one walk in the text's order. -/
theorem wp_region_later {P : Program} {id : Nat} {Q : Exit → Act → World → Prop} {a : Act} {w : World} {l : List Oper} (w0 : World) (h0 : Keep Non w0 w) (hm : P.follows .mixedOrders = true) (hB : Region.lexB .any l.toArray = true)
    (h : wpQuiet P l.toArray (fun w' => ∃ x : Later w0, w' = x.w) (fun a' => ∀ w', (∃ x : Later w0, w' = x.w) → Q .normal a' w') l a) : (Code.region id l.toArray true).wp P Q a w :=
  wp_region_quiet (C := fun w' => ∃ x : Later w0, w' = x.w) hm hB ⟨⟨_, h0.drew⟩, rfl⟩ (by simpa using h)

/-- Integers as cells. -/
def ints (as : List Int) : Array Value := (as.map (Value.int .i64)).toArray
theorem ints_get (as : List Int) (i : Nat) (h : i < as.length) : (ints as)[i]? = some (.int .i64 (as.getD i 0)) := by
  simp [ints, List.getD_eq_getElem?_getD, h]
theorem ints_set (as : List Int) (i : Nat) (x : Int) : (ints as).setIfInBounds i (.int .i64 x) = ints (as.set i x) := by
  simp [ints, List.map_set]

end Go.Proofs.Qxb6628190a
