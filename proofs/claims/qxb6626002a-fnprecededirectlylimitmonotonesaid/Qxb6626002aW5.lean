import Derived.Test.Qxb6626002aW4
import Derived.Deep.AppendLies
namespace Go.Proofs.Qxb6626002a
open Go.RowKit
set_option linter.unusedVariables false

theorem Try.info3 : (Try.prog.info? 3).map (fun i => (i.zero, i.size, i.bytes)) = some (some (.int .i64 0), 1, 8) := by kernel_rfl

/-- The slice v holds the integers xs, in a row of the call's own, from block 'base' on. -/
def Own (w : World) (base : Nat) (v : Value) (xs : List Int) : Prop := w.ownsRow base 3 1 v xs.length (xs.map (Value.int .i64))
/-- Two slices lie apart. -/
def Apart (v u : Value) : Prop := ∀ k, v.ownBlock = some k → u.ownBlock = some k → False

theorem Own.keep {S : Nat → Prop} {w w' : World} {base : Nat} {v : Value} {xs : List Int} (h : Own w base v xs) (k : Keep S w w') (hs : ∀ b, v.ownBlock = some b → ¬ S b) : Own w' base v xs := by
  obtain ⟨h1, h2⟩ := h
  refine ⟨h1, ?_⟩
  rcases h2 with h2 | ⟨g, cap, cur, hv, hg, hh, r⟩
  · exact .inl h2
  · refine .inr ⟨g, cap, cur, hv, hg, ?_, r⟩
    rw [k.block g (Array.getElem?_eq_some_iff.1 hh).1 (hs g (by rw [hv]; rfl))]
    exact hh
theorem Own.alloc {w : World} {base : Nat} {v : Value} {xs : List Int} (h : Own w base v xs) (o : Obj) : Own (w.alloc o) base v xs := World.ownsRow.alloc h o
theorem Own.lt {w : World} {base : Nat} {v : Value} {xs : List Int} (h : Own w base v xs) : ∀ k, v.ownBlock = some k → base ≤ k ∧ k < w.heap.size := World.ownsRow.lt h

set_option maxHeartbeats 800000 in
/-- The closure that records its calls. -/
theorem rec_any (F G base : Nat) (f t : Int) (v u : Value) (fs gs : List Int) (w : World) (hF : Blk w F #[v] 22) (hG : Blk w G #[u] 22) (hFG : F ≠ G) (hv : Own w base v fs) (hu : Own w base u gs) (hap : Apart v u)
    (bF : F < base) (bG : G < base) (hb : base ≤ w.heap.size) (lf : fs.length ≤ 10000) (lg : gs.length ≤ 10000) :
    Calls Try.prog 18 #[.int .i64 f, .int .i64 t, .pointer (some ⟨F, 0, none⟩), .pointer (some ⟨G, 0, none⟩)] w fun e w' =>
      e = .returned (.tuple #[]) ∧ ∃ v' u', Blk w' F #[v'] 22 ∧ Blk w' G #[u'] 22 ∧ Own w' base v' (fs ++ [f]) ∧ Own w' base u' (gs ++ [t]) ∧ Apart v' u' ∧
        Keep (fun k => k = F ∨ k = G ∨ v.ownBlock = some k ∨ u.ownBlock = some k) w w' := by
  obtain ⟨i0, hi, hz0, hz1, hz2⟩ := info_parts Try.info3
  have cF : w.cell? ⟨F, 0, none⟩ = some v := hF.cell 0
  have hFs := hF.lt
  go_enter Try.func18, Try.ntmps18
  go_wp2_with (at_builtin; refine wpList_append_lies _ rfl _ _ 22 rfl base 3 i0 (.int .i64 0) 1 8 Try.underlying22 hi hz0 hz1 hz2 rfl (by decide) v fs.length (fs.map (Value.int .i64)) rfl (hv.alloc _) ⟨w.heap.size, 0, none⟩ 1 1 [.int .i64 f] rfl rfl (cell_one_new _ _ _) (by simp [Value.oneCell']) (by omega) (by unfold maxLen; omega) (by omega) (by simp; omega) (w.heap.size + 1) (by simp) ?_)
  intro g cap w1 hown1 hgrow1 hat1 hlt1
  have k1 := Keep.of_grown hgrow1
  have hvlt := hv.lt
  have hult := hu.lt
  have nF : ¬ some F = v.ownBlock := fun e => by have := hvlt F e.symm; omega
  have nG : ¬ some G = v.ownBlock := fun e => by have := hvlt G e.symm; omega
  have hF1 : Blk w1 F #[v] 22 := (hF.alloc _).keep k1 nF
  have hG1 : Blk w1 G #[u] 22 := (hG.alloc _).keep k1 nG
  have hu1 : Own w1 base u gs := (hu.alloc _).keep k1 fun b hb e => hap b e.symm hb
  have sz1 : w.heap.size + 1 ≤ w1.heap.size := by have := k1.size; simpa using this
  have cF1 : w1.cell? ⟨F, 0, none⟩ = some v := hF1.cell 0
  have fF1 := hF1.frozen 0
  have cG1 : w1.cell? ⟨G, 0, none⟩ = some u := hG1.cell 0
  have lF1 := hF1.lt
  have lG1 := hG1.lt
  have hu2 : Own (w1.setCell ⟨F, 0, none⟩ (.slice (some ⟨g, 0, none⟩) (fs.length + 1) cap)) base u gs := hu1.keep (keep1 w1 F _ 0) fun b hb e => by have := hult b hb; omega
  have Hrest : Hid ((v.ownBlock = some g ∨ g = w.heap.size + 1) ∧ w1.ownsRow base 3 1 (.slice (some ⟨g, 0, none⟩) (fs.length + 1) cap) (fs.length + 1) (List.map (Value.int IntKind.i64) fs ++ [Value.int IntKind.i64 f])) := ⟨hat1, hown1⟩
  clear hat1 hown1 hgrow1
  go_wp2_with (at_builtin; refine wpList_append_lies _ rfl _ _ 22 rfl base 3 i0 (.int .i64 0) 1 8 Try.underlying22 hi hz0 hz1 hz2 rfl (by decide) u gs.length (gs.map (Value.int .i64)) rfl (hu2.alloc _) ⟨w1.heap.size, 0, none⟩ 1 1 [.int .i64 t] rfl rfl (World.news_of_block (Blk.new' _ #[.int .i64 t] 3 _ (by simp))) (by simp [Value.oneCell']) (by omega) (by unfold maxLen; omega) (by omega) (by simp; omega) (w1.heap.size + 1) (by simp) ?_)
  intro g2 cap2 w2 hown2 hgrow2 hat2 hlt2
  have k2 := Keep.of_grown hgrow2
  have kF := keep1 w1 F (.slice (some ⟨g, 0, none⟩) (fs.length + 1) cap) 0
  have mF : ¬ some F = u.ownBlock := fun e => by have := hult F e.symm; omega
  have mG : ¬ some G = u.ownBlock := fun e => by have := hult G e.symm; omega
  have hG2 : Blk w2 G #[u] 22 := ((hG1.keep kF hFG.symm).alloc _).keep k2 mG
  have hF2 : Blk w2 F #[.slice (some ⟨g, 0, none⟩) (fs.length + 1) cap] 22 := ((hF1.set 0 _).alloc _).keep k2 mF
  have cG2 : w2.cell? ⟨G, 0, none⟩ = some u := hG2.cell 0
  have fG2 := hG2.frozen 0
  obtain ⟨hat1, hown1⟩ := Hrest.out
  have gr : g < w1.heap.size ∧ base ≤ g := ⟨hlt1, by rcases hat1 with h | h; exact (hvlt g h).1; omega⟩
  have ng : ∀ b, u.ownBlock = some b → b ≠ g := fun b hb e => by
    subst e
    rcases hat1 with h | h
    · exact hap _ h hb
    · have := hult b hb; omega
  have gr2 : base ≤ g2 ∧ g2 ≠ g := by
    rcases hat2 with h | h
    · exact ⟨(hult g2 h).1, ng g2 h⟩
    · exact ⟨by omega, by omega⟩
  have o1 : Own w1 base (.slice (some ⟨g, 0, none⟩) (fs.length + 1) cap) (fs ++ [f]) := by simpa [Own] using hown1
  have o2 : Own w2 base (.slice (some ⟨g2, 0, none⟩) (gs.length + 1) cap2) (gs ++ [t]) := by simpa [Own] using hown2
  have o1' : Own w2 base (.slice (some ⟨g, 0, none⟩) (fs.length + 1) cap) (fs ++ [f]) :=
    ((o1.keep kF fun b hb e => by simp [Value.ownBlock] at hb; omega).alloc _).keep k2 fun b hb e => ng b e.symm (by simpa [Value.ownBlock] using hb.symm)
  have kG := keep1 w2 G (.slice (some ⟨g2, 0, none⟩) (gs.length + 1) cap2) 0
  have kall : Keep (fun k => k = F ∨ k = G ∨ v.ownBlock = some k ∨ u.ownBlock = some k) w (w2.setCell ⟨G, 0, none⟩ (.slice (some ⟨g2, 0, none⟩) (gs.length + 1) cap2)) :=
    ((((((Keep.refl _ w).alloc _).then k1 fun _ _ e => .inr (.inr (.inl e.symm))).then kF fun _ _ e => .inl e).alloc _).then k2 fun _ _ e => .inr (.inr (.inr e.symm))).then kG fun _ _ e => .inr (.inl e)
  clear hat1 hown1 hat2 hown2 hgrow2 Hrest hu1 hu2 cF1 fF1 cG1 cF
  go_wp2
  go_end0
  refine ⟨rfl, _, _, hF2.keep kG hFG, hG2.set 0 _, o1'.keep kG ?_, o2.keep kG ?_, ?_, kall⟩
  · intro b hb e; simp [Value.ownBlock] at hb; omega
  · intro b hb e; simp [Value.ownBlock] at hb; omega
  · intro b h1 h2; simp [Value.ownBlock] at h1 h2; omega

end Go.Proofs.Qxb6626002a
