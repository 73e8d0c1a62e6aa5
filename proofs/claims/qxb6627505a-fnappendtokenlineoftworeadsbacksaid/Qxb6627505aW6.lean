import Derived.Test.Qxb6627505aW5
namespace Go.Proofs.Qxb6627505a
open Go.RowKit
set_option linter.unusedVariables false

/-- A lower-case hex digit. -/
def hexd (n : Int) : Int := if n < 10 then n + 48 else n + 87

def tab : ByteArray := ⟨#[48, 49, 50, 51, 52, 53, 54, 55, 56, 57, 97, 98, 99, 100, 101, 102]⟩
theorem digit_nat : ∀ n : Fin 16, ((tab[n.val]'(n.isLt)).toNat : Int) = hexd (n.val : Int) := by decide
theorem digit_at (n : Int) (h0 : 0 ≤ n) (h1 : n < 16) {h : n.toNat < (⟨#[48, 49, 50, 51, 52, 53, 54, 55, 56, 57, 97, 98, 99, 100, 101, 102]⟩ : ByteArray).size} :
    (((⟨#[48, 49, 50, 51, 52, 53, 54, 55, 56, 57, 97, 98, 99, 100, 101, 102]⟩ : ByteArray)[n.toNat]'h).toNat : Int) = hexd n := by
  have := digit_nat ⟨n.toNat, by omega⟩
  have e : ((n.toNat : Nat) : Int) = n := Int.toNat_of_nonneg h0
  simp only [e] at this
  exact this

set_option maxHeartbeats 800000 in
theorem encode_one (g o cd c : Nat) (x : Addr) (b : Int) (w : World) (hx : w.cell? x = some (.int .u8 b)) (h0 : 0 ≤ b) (h1 : b ≤ 255) (cur : Array Value) (hg : w.heap[g]? = some (.cells cur 5 (0, 0))) (ho : o + 2 ≤ cur.size) (hne : x.block ≠ g) :
    Calls Try.prog 20 #[.slice (some ⟨g, o, none⟩) 2 cd, .slice (some x) 1 c] w fun e w' => e = .returned (.int .i64 2) ∧ w' = (w.setCell ⟨g, o, none⟩ (.int .u8 (hexd (b / 16)))).setCell ⟨g, o + 1, none⟩ (.int .u8 (hexd (b % 16))) := by
  have hB : Blk w g cur 5 := hg
  go_enter Try.func20, Try.ntmps20
  go_wp2
  go_loopw [5, 10] (fun j i wr => (i = .int .i64 0 ∧ j = .int .i64 0 ∧ wr = w) ∨ (i = .int .i64 1 ∧ j = .int .i64 2 ∧ wr = (w.setCell ⟨g, o, none⟩ (.int .u8 (hexd (b / 16)))).setCell ⟨g, o + 1, none⟩ (.int .u8 (hexd (b % 16))))) (fun _ i _ => 1 - (intOf i).toNat)
  case atStart => exact .inl ⟨rfl, rfl, rfl⟩
  case round =>
    rcases hrel with ⟨rfl, rfl, hw⟩ | ⟨rfl, rfl, hw⟩
    · obtain rfl := hw.symm
      have c0 : w.cell? ⟨g, o, none⟩ = some (cur[o]'(by omega)) := (hB.cell o).trans (by simp)
      have c1 : w.cell? ⟨g, o + 1, none⟩ = some (cur[o + 1]'(by omega)) := (hB.cell (o + 1)).trans (by simp)
      have z0 := hB.frozen o
      have z1 := hB.frozen (o + 1)
      go_wp2
      go_roundw
      case rel => exact .inr ⟨rfl, rfl, by rw [digit_at (b / 16) (by omega) (by omega), digit_at (b % 16) (by omega) (by omega)]⟩
      case measure => simp [intOf]
    · subst hw
      go_wp2
      go_ret
      exact ⟨rfl, rfl⟩
end Go.Proofs.Qxb6627505a
