import Derived.Test.Qxb6627505aW12
namespace Go.Proofs.Qxb6627505a
open Go.RowKit
set_option linter.unusedVariables false

theorem encB_u8 (c : Int) (h0 : 0 ≤ c) (h1 : c ≤ 255) : U8 (encB c) := by
  have a1 := hexd_u8 (c / 16) (by omega) (by omega)
  have a2 := hexd_u8 (c % 16) (by omega) (by omega)
  unfold encB U8
  repeat' split
  all_goals (simp; try omega)
theorem encQ_u8 {t : List Int} (h : U8 t) : U8 (encQ t) := by
  intro x hx
  simp only [encQ, List.mem_flatMap] at hx
  obtain ⟨y, hy, hx⟩ := hx
  exact encB_u8 y (h y hy).1 (h y hy).2 x hx
theorem enc_u8 {t : List Int} (h : U8 t) : U8 (enc t) := by
  unfold enc; split
  · exact h
  · intro x hx
    simp at hx
    rcases hx with rfl | hx | rfl
    · omega
    · exact encQ_u8 h x hx
    · omega
theorem enc_len (t : List Int) : (enc t).length ≤ 4 * t.length + 2 := by
  unfold enc; split
  · omega
  · have := encQ_len t
    simp; omega
theorem enc_pos (t : List Int) : 0 < (enc t).length := by
  unfold enc; split
  · exact bareTok_pos (by assumption)
  · simp
theorem U8.app {a b : List Int} (h : U8 a) (g : U8 b) : U8 (a ++ b) := by
  intro x hx
  rcases List.mem_append.1 hx with hx | hx
  · exact h x hx
  · exact g x hx
theorem U8.take {a : List Int} (h : U8 a) (n : Nat) : U8 (a.take n) := fun x hx => h x (List.mem_of_mem_take hx)

/-- zzReadForm at a place where the form of t stands. -/
theorem read_any (x : Addr) (s t : List Int) (n p c : Nat) (P : Int) (w : World) (hnn : n = s.length) (hP : P = (p : Int)) (h : Rd w (some x) s) (hu : U8 s) (hut : U8 t) (hs : ∀ i, i < (enc t).length → s.getD (p + i) 0 = (enc t).getD i 0) (hp : p + (enc t).length ≤ s.length)
    (hend : p + (enc t).length < s.length → bare (s.getD (p + (enc t).length) 0) = false) (hn : s.length ≤ 9000000) (ht : t.length ≤ 1000000) (hcp : s.length ≤ c) (hcp2 : c ≤ 9223372036854775807) :
    Calls Try.prog 9 #[.slice (some x) n c, .int .i64 P] w (ReadOk w t (p + (enc t).length)) := by
  subst hnn hP
  cases hq : bareTok t
  · have e : enc t = 34 :: (encQ t ++ [34]) := by simp [enc, hq]
    rw [e] at hs hp hend ⊢
    have hl : (34 :: (encQ t ++ [34])).length = (encQ t).length + 1 + 1 := by simp
    rw [hl] at hs hp hend ⊢
    have := read_quoted x s t p c w h hu hut (by omega) (by have := hs 0 (by omega); simpa using this) (fun i hi => by
      have := hs (i + 1) (by omega)
      rw [List.getD_cons_succ] at this
      rw [← this]
      congr 1; omega) hq hn ht hcp hcp2
    rw [show p + ((encQ t).length + 1 + 1) = p + 1 + (encQ t).length + 1 by omega]
    exact this
  · have e : enc t = t := by simp [enc, hq]
    rw [e] at hs hp hend ⊢
    exact read_bare x s t p c w h hu hp hs hq hend hn hcp hcp2

theorem bytes2 (a b : Option Addr) (n m c d : Nat) (w : World) (hn : n ≤ 9223372036854775807) (hm : m ≤ 9223372036854775807) : Calls Try.prog 5 #[.slice a n c, .slice b m d] w fun e w' => (∃ r, e = .returned (.bool r)) ∧ w' = w := by
  go_enter Try.func5, Try.ntmps5
  go_wp2
  all_goals (go_ret; exact ⟨⟨_, rfl⟩, rfl⟩)
theorem bytes3 (a b f : Option Addr) (n m l c d g : Nat) (w : World) (hn : n ≤ 9223372036854775807) (hm : m ≤ 9223372036854775807) (hl : l ≤ 9223372036854775807) : Calls Try.prog 10 #[.slice a n c, .slice b m d, .slice f l g] w fun e w' => (∃ r, e = .returned (.bool r)) ∧ w' = w := by
  go_enter Try.func10, Try.ntmps10
  go_wp2
  all_goals (go_ret; exact ⟨⟨_, rfl⟩, rfl⟩)

theorem Own.cap {w : World} {base g n cap : Nat} {z : List Int} (h : Own w base (.slice (some ⟨g, 0, none⟩) n cap) z) : n ≤ cap ∧ cap ≤ 9223372036854775807 ∧ base ≤ g ∧ g < w.heap.size := by
  obtain ⟨hl, hh⟩ := h
  rcases hh with ⟨hh, _⟩ | ⟨g1, cap1, cur, hv, hg1, hcell, hle, hmax, hsz, htk⟩
  · cases hh
  simp only [Value.slice.injEq, Option.some.injEq, Addr.mk.injEq, and_true] at hv
  obtain ⟨rfl, h2, rfl⟩ := hv
  exact ⟨by omega, by simpa [maxLen] using hmax, hg1, (Array.getElem?_eq_some_iff.1 hcell).1⟩
theorem Own.block {w : World} {base g : Nat} {v : Value} {z : List Int} (h : Own w base v z) (e : v.ownBlock = some g) : base ≤ g := by
  obtain ⟨hl, hh⟩ := h
  rcases hh with ⟨rfl, _⟩ | ⟨g1, cap1, cur, rfl, hg1, _⟩
  · cases e
  · simp [Value.ownBlock] at e
    omega
theorem Rd.pre {w : World} {x : Addr} {a b : List Int} (h : Rd w (some x) (a ++ b)) : Rd w (some x) a := .inr ⟨x, rfl, fun i hi => by
  rw [h.cell i (by simp; omega)]
  simp [hi, List.getD_eq_getElem?_getD, List.getElem?_append_left]⟩
theorem Rd.suf {w : World} {x : Addr} {a b : List Int} (h : Rd w (some x) (a ++ b)) : Rd w (some (x.add a.length)) b := .inr ⟨_, rfl, fun i hi => by
  rw [add_add, h.cell (a.length + i) (by simp; omega)]
  rw [List.getD_eq_getElem?_getD, List.getD_eq_getElem?_getD, List.getElem?_append_right (by omega), Nat.add_sub_cancel_left]⟩
theorem Blk.rd {w : World} {g : Nat} {t : List Int} (h : Blk w g (vals t).toArray 5) : Rd w (some ⟨g, 0, none⟩) t := .inr ⟨_, rfl, fun i hi => by
  have : (⟨g, 0, none⟩ : Addr).add i = ⟨g, i, none⟩ := by unfold Addr.add; split <;> simp_all
  rw [this, h.cell i]; simp [vals, hi]⟩
theorem neq_yes (x : Addr) (n c : Nat) (w : World) : (binOp .neq 22 (.slice (some x) n c) (.slice none 0 0)).run Try.prog w = .ok (.bool true) w := by kernel_rfl
theorem neq_no (n c : Nat) (w : World) : (binOp .neq 22 (.slice none n c) (.slice none 0 0)).run Try.prog w = .ok (.bool false) w := by kernel_rfl
end Go.Proofs.Qxb6627505a
