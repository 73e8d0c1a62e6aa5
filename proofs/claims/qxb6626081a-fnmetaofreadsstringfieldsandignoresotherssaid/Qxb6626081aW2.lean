import Derived.Test.Qxb6626081aW1
import Derived.MapKept
import Derived.Laws.IdiomStrings
namespace Go.Proofs.Qxb6626081a
open Go.RowKit
set_option linter.unusedVariables false

theorem run_push {t kt et : TypeId} (w W' : World) (r c : Nat) (es : Array MapEntry) (s : ByteArray) (val : Value) (hm : Try.prog.underlying t = some (.map kt et)) (hk : Try.prog.underlying kt = some .string)
    (hb : w.heap[r]? = some (.map es c)) (hf : Instr.findNow .string (.string s) es.toList 0 = some none)
    (hW : { w with heap := w.heap.setIfInBounds r (.map (es.push { key := .string s, val := val, born := c }) (c + 1)) } = W') :
    (Instr.mapUpdate t (.map (some r)) (.string s) val).run Try.prog w = .ok () W' := by
  have hc : (Instr.checkKey false 10000 kt (.string s)).run Try.prog w = .ok () w := MapKept.run_checkKey (k := .string s) hk (by simp [MapKept.IsKey]) false 9999
  subst hW
  simp [Instr.mapUpdate, run_underlying hm, MapKept.run_getObj_map hb, hc, MapKept.run_findKey hk hf, MapKept.run_setObj_map _ hb, Result.andThen]

theorem set_new (w : World) (A B : Obj) (r : Nat) (hr : r = w.heap.size) : { w.alloc A with heap := (w.alloc A).heap.setIfInBounds r B } = w.alloc B := by
  subst hr
  simp [World.alloc, Array.setIfInBounds_def, Array.push, Array.set]

theorem set_under (w : World) (A B : Obj) (r : Nat) (hr : r < w.heap.size) (W' : World) (h : { w with heap := w.heap.setIfInBounds r B } = W') :
    { w.alloc A with heap := (w.alloc A).heap.setIfInBounds r B } = W'.alloc A := by
  subst h
  have e : (w.heap.push A).setIfInBounds r B = (w.heap.setIfInBounds r B).push A := by
    apply Array.ext_getElem?
    intro i
    rw [Array.getElem?_setIfInBounds, Array.getElem?_push, Array.getElem?_push, Array.getElem?_setIfInBounds, Array.size_setIfInBounds, Array.size_push]
    by_cases h1 : r = i
    · subst h1
      have : ¬ r = w.heap.size := by omega
      simp [this, hr, Nat.lt_succ_of_lt hr]
    · simp [h1]
  show { w with heap := (w.heap.push A).setIfInBounds r B } = { w with heap := (w.heap.setIfInBounds r B).push A }
  rw [e]

theorem run_look (w : World) (r c : Nat) (es : Array MapEntry) (s : ByteArray) (a : Option (Nat × Value))
    (hb : w.heap[r]? = some (.map es c)) (hf : Instr.findNow .string (.string s) es.toList 0 = some a) :
    (Instr.lookup 30 (.map (some r)) (.string s) false).run Try.prog w = .ok ((a.map (·.2)).getD .nilIface) w := by
  have hc : (Instr.checkKey es.isEmpty 10000 9 (.string s)).run Try.prog w = .ok () w := MapKept.run_checkKey (k := .string s) Try.underlying9 (by simp [MapKept.IsKey]) _ 9999
  have hz : (zeroValue 20).run Try.prog w = .ok .nilIface w := by kernel_rfl
  cases a with
  | none => simp [Instr.lookup, run_underlying Try.underlying30, MapKept.run_getObj_map hb, hc, MapKept.run_findKey Try.underlying9 hf, Result.andThen, hz]
  | some a => simp [Instr.lookup, run_underlying Try.underlying30, MapKept.run_getObj_map hb, hc, MapKept.run_findKey Try.underlying9 hf, Result.andThen]

theorem look_none (w : World) (s : ByteArray) : (Instr.lookup 30 (.map none) (.string s) false).run Try.prog w = .ok .nilIface w := by
  have hc : (Instr.checkKey true 10000 9 (.string s)).run Try.prog w = .ok () w := MapKept.run_checkKey (k := .string s) Try.underlying9 (by simp [MapKept.IsKey]) _ 9999
  have hz : (zeroValue 20).run Try.prog w = .ok .nilIface w := by kernel_rfl
  have hf : Instr.findNow .string (.string s) ([] : List MapEntry) 0 = some none := rfl
  simp [Instr.lookup, run_underlying Try.underlying30, hc, MapKept.run_findKey Try.underlying9 hf, Result.andThen, hz]

theorem as_str (s : ByteArray) (W : World) : (Instr.typeAssert (.iface 9 (.string s)) 20 9 true).run Try.prog W = .ok (.tuple #[.string s, .bool true]) W := by kernel_rfl
theorem as_str_nil (W : World) : (Instr.typeAssert .nilIface 20 9 true).run Try.prog W = .ok (.tuple #[.string ⟨#[]⟩, .bool false]) W := by kernel_rfl
theorem as_str_bytes (v : Value) (W : World) : (Instr.typeAssert (.iface 32 v) 20 9 true).run Try.prog W = .ok (.tuple #[.string ⟨#[]⟩, .bool false]) W := by kernel_rfl
theorem as_map (v : Value) (W : World) : (Instr.typeAssert (.iface 30 v) 20 30 true).run Try.prog W = .ok (.tuple #[v, .bool true]) W := by kernel_rfl
theorem as_map_nil (W : World) : (Instr.typeAssert .nilIface 20 30 true).run Try.prog W = .ok (.tuple #[.map none, .bool false]) W := by kernel_rfl
theorem as_map_str (v : Value) (W : World) : (Instr.typeAssert (.iface 31 v) 20 30 true).run Try.prog W = .ok (.tuple #[.map none, .bool false]) W := by kernel_rfl

theorem heap_one (w : World) (A : Obj) (r : Nat) (hr : r = w.heap.size) : (w.alloc A).heap[r]? = some A := by
  subst hr; exact Go.heap_alloc_new w _
theorem heap_under (w : World) (A B : Obj) (r : Nat) (hr : r < w.heap.size) (h : w.heap[r]? = some B) : (w.alloc A).heap[r]? = some B := by
  rw [Below.heap_alloc w A r hr]; exact h

theorem ne_beq {a b : ByteArray} (h : a ≠ b) : (a == b) = false := by
  cases hh : (a == b) with
  | false => rfl
  | true => exact absurd ((MapKept.bytes_beq a b).mp hh) h
theorem beq_self (a : ByteArray) : (a == a) = true := (MapKept.bytes_beq a a).mpr rfl

end Go.Proofs.Qxb6626081a
