import Derived.Test.Qxb6626081aW2
namespace Go.Proofs.Qxb6626081a
open Go.RowKit
set_option linter.unusedVariables false

theorem look_both {w : World} {r c : Nat} {es : Array MapEntry} {s : ByteArray} {a : Option (Nat × Value)} {x : Value} (hb : w.heap[r]? = some (.map es c)) (hf : Instr.findNow .string (.string s) es.toList 0 = some a) (hx : (a.map (·.2)).getD .nilIface = x) :
    ∀ A B : Obj, (Instr.lookup 30 (.map (some r)) (.string s) false).run Try.prog ((w.alloc A).alloc B) = .ok x ((w.alloc A).alloc B) := by
  intro A B
  have hr : r < w.heap.size := (Array.getElem?_eq_some_iff.1 hb).1
  subst hx
  exact run_look _ _ _ _ _ _ (heap_under _ _ _ _ (by simp; omega) (heap_under _ _ _ _ hr hb)) hf

theorem metaOf_str (r1 r2 c1 c2 i1 i2 i3 i4 i5 : Nat) (es1 es2 : Array MapEntry) (s1 s2 s3 s4 : ByteArray) (w : World)
    (hb1 : w.heap[r1]? = some (.map es1 c1)) (hb2 : w.heap[r2]? = some (.map es2 c2))
    (f1 : Instr.findNow .string (.string ⟨#[97, 112, 105, 86, 101, 114, 115, 105, 111, 110]⟩) es1.toList 0 = some (some (i1, .iface 9 (.string s1)))) (f2 : Instr.findNow .string (.string ⟨#[107, 105, 110, 100]⟩) es1.toList 0 = some (some (i2, .iface 9 (.string s2)))) (f3 : Instr.findNow .string (.string ⟨#[109, 101, 116, 97, 100, 97, 116, 97]⟩) es1.toList 0 = some (some (i3, .iface 30 (.map (some r2)))))
    (f4 : Instr.findNow .string (.string ⟨#[110, 97, 109, 101, 115, 112, 97, 99, 101]⟩) es2.toList 0 = some (some (i4, .iface 9 (.string s3)))) (f5 : Instr.findNow .string (.string ⟨#[110, 97, 109, 101]⟩) es2.toList 0 = some (some (i5, .iface 9 (.string s4)))) :
    Calls Try.prog 12 #[.map (some r1)] w fun e w' => e = .returned (.agg #[.string s1, .string s2, .string s3, .string s4]) ∧ Keep Non w w' :=
  metaOf_any (.map (some r1)) (.iface 9 (.string s1)) (.iface 9 (.string s2)) (.iface 30 (.map (some r2))) (.iface 9 (.string s3)) (.iface 9 (.string s4)) (.map (some r2)) s1 s2 s3 s4 true true true true true w
    (look_both hb1 f1 rfl) (look_both hb1 f2 rfl) (look_both hb1 f3 rfl) (look_both hb2 f4 rfl) (look_both hb2 f5 rfl) (as_str s1) (as_str s2) (as_map _) (as_str s3) (as_str s4)

theorem metaOf_bytes (r1 r2 c1 c2 i1 i2 i3 i4 i5 : Nat) (es1 es2 : Array MapEntry) (v1 v2 : Value) (s3 s4 : ByteArray) (w : World)
    (hb1 : w.heap[r1]? = some (.map es1 c1)) (hb2 : w.heap[r2]? = some (.map es2 c2))
    (f1 : Instr.findNow .string (.string ⟨#[97, 112, 105, 86, 101, 114, 115, 105, 111, 110]⟩) es1.toList 0 = some (some (i1, .iface 32 v1))) (f2 : Instr.findNow .string (.string ⟨#[107, 105, 110, 100]⟩) es1.toList 0 = some (some (i2, .iface 32 v2))) (f3 : Instr.findNow .string (.string ⟨#[109, 101, 116, 97, 100, 97, 116, 97]⟩) es1.toList 0 = some (some (i3, .iface 30 (.map (some r2)))))
    (f4 : Instr.findNow .string (.string ⟨#[110, 97, 109, 101, 115, 112, 97, 99, 101]⟩) es2.toList 0 = some (some (i4, .iface 9 (.string s3)))) (f5 : Instr.findNow .string (.string ⟨#[110, 97, 109, 101]⟩) es2.toList 0 = some (some (i5, .iface 9 (.string s4)))) :
    Calls Try.prog 12 #[.map (some r1)] w fun e w' => e = .returned (.agg #[.string ⟨#[]⟩, .string ⟨#[]⟩, .string s3, .string s4]) ∧ Keep Non w w' :=
  metaOf_any (.map (some r1)) (.iface 32 v1) (.iface 32 v2) (.iface 30 (.map (some r2))) (.iface 9 (.string s3)) (.iface 9 (.string s4)) (.map (some r2)) ⟨#[]⟩ ⟨#[]⟩ s3 s4 false false true true true w
    (look_both hb1 f1 rfl) (look_both hb1 f2 rfl) (look_both hb1 f3 rfl) (look_both hb2 f4 rfl) (look_both hb2 f5 rfl) (as_str_bytes v1) (as_str_bytes v2) (as_map _) (as_str s3) (as_str s4)

theorem metaOf_wrong (r1 c1 i1 i2 i3 : Nat) (es1 : Array MapEntry) (v : Value) (s1 s2 : ByteArray) (w : World)
    (hb1 : w.heap[r1]? = some (.map es1 c1))
    (f1 : Instr.findNow .string (.string ⟨#[97, 112, 105, 86, 101, 114, 115, 105, 111, 110]⟩) es1.toList 0 = some (some (i1, .iface 9 (.string s1)))) (f2 : Instr.findNow .string (.string ⟨#[107, 105, 110, 100]⟩) es1.toList 0 = some (some (i2, .iface 9 (.string s2)))) (f3 : Instr.findNow .string (.string ⟨#[109, 101, 116, 97, 100, 97, 116, 97]⟩) es1.toList 0 = some (some (i3, .iface 31 v))) :
    Calls Try.prog 12 #[.map (some r1)] w fun e w' => e = .returned (.agg #[.string s1, .string s2, .string ⟨#[]⟩, .string ⟨#[]⟩]) ∧ Keep Non w w' :=
  metaOf_any (.map (some r1)) (.iface 9 (.string s1)) (.iface 9 (.string s2)) (.iface 31 v) .nilIface .nilIface (.map none) s1 s2 ⟨#[]⟩ ⟨#[]⟩ true true false false false w
    (look_both hb1 f1 rfl) (look_both hb1 f2 rfl) (look_both hb1 f3 rfl) (fun _ _ => look_none _ _) (fun _ _ => look_none _ _) (as_str s1) (as_str s2) (as_map_str _) as_str_nil as_str_nil

theorem metaOf_none (r1 c1 i1 i2 : Nat) (es1 : Array MapEntry) (s1 s2 : ByteArray) (w : World)
    (hb1 : w.heap[r1]? = some (.map es1 c1))
    (f1 : Instr.findNow .string (.string ⟨#[97, 112, 105, 86, 101, 114, 115, 105, 111, 110]⟩) es1.toList 0 = some (some (i1, .iface 9 (.string s1)))) (f2 : Instr.findNow .string (.string ⟨#[107, 105, 110, 100]⟩) es1.toList 0 = some (some (i2, .iface 9 (.string s2)))) (f3 : Instr.findNow .string (.string ⟨#[109, 101, 116, 97, 100, 97, 116, 97]⟩) es1.toList 0 = some none) :
    Calls Try.prog 12 #[.map (some r1)] w fun e w' => e = .returned (.agg #[.string s1, .string s2, .string ⟨#[]⟩, .string ⟨#[]⟩]) ∧ Keep Non w w' :=
  metaOf_any (.map (some r1)) (.iface 9 (.string s1)) (.iface 9 (.string s2)) .nilIface .nilIface .nilIface (.map none) s1 s2 ⟨#[]⟩ ⟨#[]⟩ true true false false false w
    (look_both hb1 f1 rfl) (look_both hb1 f2 rfl) (look_both hb1 f3 rfl) (fun _ _ => look_none _ _) (fun _ _ => look_none _ _) (as_str s1) (as_str s2) as_map_nil as_str_nil as_str_nil

end Go.Proofs.Qxb6626081a
