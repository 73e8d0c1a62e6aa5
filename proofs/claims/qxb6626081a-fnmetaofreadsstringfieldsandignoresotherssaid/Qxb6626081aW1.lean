import Derived.Test.Qxb6626081aRows
import Derived.Test.Qxb6626081aMem
namespace Go.Proofs.Qxb6626081a
open Go.RowKit
set_option linter.unusedVariables false

def kApi : ByteArray := ⟨#[97, 112, 105, 86, 101, 114, 115, 105, 111, 110]⟩
def kKind : ByteArray := ⟨#[107, 105, 110, 100]⟩
def kMeta : ByteArray := ⟨#[109, 101, 116, 97, 100, 97, 116, 97]⟩
def kNs : ByteArray := ⟨#[110, 97, 109, 101, 115, 112, 97, 99, 101]⟩
def kName : ByteArray := ⟨#[110, 97, 109, 101]⟩

set_option maxHeartbeats 800000 in
theorem metaOf_any (m x1 x2 x3 x4 x5 m2 : Value) (s1 s2 s3 s4 : ByteArray) (b1 b2 b3 b4 b5 : Bool) (w : World)
    (l1 : ∀ A B : Obj, (Instr.lookup 30 m (.string ⟨#[97, 112, 105, 86, 101, 114, 115, 105, 111, 110]⟩) false).run Try.prog ((w.alloc A).alloc B) = .ok x1 ((w.alloc A).alloc B))
    (l2 : ∀ A B : Obj, (Instr.lookup 30 m (.string ⟨#[107, 105, 110, 100]⟩) false).run Try.prog ((w.alloc A).alloc B) = .ok x2 ((w.alloc A).alloc B))
    (l3 : ∀ A B : Obj, (Instr.lookup 30 m (.string ⟨#[109, 101, 116, 97, 100, 97, 116, 97]⟩) false).run Try.prog ((w.alloc A).alloc B) = .ok x3 ((w.alloc A).alloc B))
    (l4 : ∀ A B : Obj, (Instr.lookup 30 m2 (.string ⟨#[110, 97, 109, 101, 115, 112, 97, 99, 101]⟩) false).run Try.prog ((w.alloc A).alloc B) = .ok x4 ((w.alloc A).alloc B))
    (l5 : ∀ A B : Obj, (Instr.lookup 30 m2 (.string ⟨#[110, 97, 109, 101]⟩) false).run Try.prog ((w.alloc A).alloc B) = .ok x5 ((w.alloc A).alloc B))
    (t1 : ∀ W : World, (Instr.typeAssert x1 20 9 true).run Try.prog W = .ok (.tuple #[.string s1, .bool b1]) W)
    (t2 : ∀ W : World, (Instr.typeAssert x2 20 9 true).run Try.prog W = .ok (.tuple #[.string s2, .bool b2]) W)
    (t3 : ∀ W : World, (Instr.typeAssert x3 20 30 true).run Try.prog W = .ok (.tuple #[m2, .bool b3]) W)
    (t4 : ∀ W : World, (Instr.typeAssert x4 20 9 true).run Try.prog W = .ok (.tuple #[.string s3, .bool b4]) W)
    (t5 : ∀ W : World, (Instr.typeAssert x5 20 9 true).run Try.prog W = .ok (.tuple #[.string s4, .bool b5]) W) :
    Calls Try.prog 12 #[m] w fun e w' => e = .returned (.agg #[.string s1, .string s2, .string s3, .string s4]) ∧ Keep Non w w' := by
  go_enter Try.func12, Try.ntmps12
  go_wp2
  exact bodyPost_ret (v := .agg #[.string s1, .string s2, .string s3, .string s4]) (by simp [results, Try.results12, go_sem]) rfl ⟨rfl, ((Keep.refl _ _).alloc _).alloc _⟩

end Go.Proofs.Qxb6626081a
