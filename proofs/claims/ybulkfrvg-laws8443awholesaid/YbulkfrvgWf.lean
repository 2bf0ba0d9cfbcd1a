import Derived.Test.YbulkfrvgWe
/-
  THE FULL BLOCK: 'make([]Lot, 0, 1024)'; two pointers into different blocks.
-/
namespace Go.Proofs.Ybulkfrvg
open Go.RowKit

theorem mk_full (w : World) : (Instr.makeSlice 23 (.int .i64 0) (.int .i64 1024)).run Yba.prog w = .ok (.slice (some ⟨w.heap.size, 0, none⟩) 0 1024) (w.alloc (.cells (madeCells zeroL.toArray (1024 * 6)) 29)) := by
  obtain ⟨i0, hi0, hz0, hz1, hz2⟩ := info_parts info29
  have := run_makeSlice (P := Yba.prog) w 23 29 i0 _ Yba.underlying23 hi0 hz0 .i64 .i64 (0 : Int) (1024 : Int) (by omega) (by omega) (by rw [hz1]; omega) (by rw [hz2]; omega) (by omega)
  rw [hz1] at this
  exact this

theorem out_frozen' (w : World) (a : Addr) (h : w.heap.size ≤ a.block) : w.frozen? a = false := by
  simp [World.frozen?, Array.getElem?_eq_none h]

theorem block_of_cell {w : World} {b o : Nat} {v : Value} (h : w.cell? ⟨b, o, none⟩ = some v) : ∃ c t fr, w.heap[b]? = some (.cells c t fr) := by
  unfold World.cell? at h
  split at h
  · next c t fr hc => exact ⟨c, t, fr, hc⟩
  · cases h

theorem same_other (w : World) {x y i j : Nat} (hne : x ≠ y) {va vb : Value} (ha : w.cell? ⟨x, i, none⟩ = some va) (hb : w.cell? ⟨y, j, none⟩ = some vb) (fa : ∀ a : Addr, a.block = x → w.frozen? a = false) (fb : ∀ a : Addr, a.block = y → w.frozen? a = false) :
    (sameAddr ⟨x, i, none⟩ ⟨y, j, none⟩).run Yba.prog w = .ok false w := by
  obtain ⟨ca, ta, ra, hca⟩ := block_of_cell ha
  obtain ⟨cb, tb, rb, hcb⟩ := block_of_cell hb
  have f1 := fa ⟨x, i, none⟩ rfl
  have f2 := fb ⟨y, j, none⟩ rfl
  have f3 := fa ⟨x, ca.size, none⟩ rfl
  have f4 := fb ⟨y, cb.size, none⟩ rfl
  simp [sameAddr, hne, f1, f2, f3, f4, noView, viewAt, World.shape?, hca, hcb, mayBeOne, stringish]

theorem ptr_other (w : World) {x y : Nat} (hne : x ≠ y) {va vb : Value} (ha : w.cell? ⟨x, 0, none⟩ = some va) (hb : w.cell? ⟨y, 0, none⟩ = some vb) (fa : ∀ a : Addr, a.block = x → w.frozen? a = false) (fb : ∀ a : Addr, a.block = y → w.frozen? a = false) :
    (binOp BinOp.eql 46 (.pointer (some ⟨x, 0, none⟩)) (.pointer (some ⟨y, 0, none⟩))).run Yba.prog w = .ok (.bool false) w := by
  have hs := same_other w hne ha hb fa fb
  have h : ∀ d : Nat, (Op.equalIn (d + 1) 46 (.pointer (some ⟨x, 0, none⟩)) (.pointer (some ⟨y, 0, none⟩))).run Yba.prog w = .ok false w := fun d => by
    simp [Op.equalIn, run_underlying Yba.underlying46, hs]
  simp only [binOp]
  simp [Op.equal, Op.maxDepth, h 9999]
end Go.Proofs.Ybulkfrvg
