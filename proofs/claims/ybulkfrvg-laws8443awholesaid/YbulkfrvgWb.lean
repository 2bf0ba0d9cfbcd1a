import Derived.Test.YbulkfrvgWa
import Derived.Laws.IdiomCopy
/-
  WHAT IS KNOWN OF THE ROW OF LOTS WHILE IT IS FILLED.
-/
namespace Go.Proofs.Ybulkfrvg
open Go.RowKit

theorem size_setCells (b : Nat) : ∀ (vs : List Value) (o : Nat) (w : World), (w.setCells b o vs).heap.size = w.heap.size
  | [], _, _ => rfl
  | v :: r, o, w => by rw [World.setCells, size_setCells b r, World.size_setCell]
theorem below_setCells {B b : Nat} (hB : B ≤ b) : ∀ (vs : List Value) (o : Nat) {a w : World}, Below B a w → Below B a (w.setCells b o vs)
  | [], _, _, _, h => h
  | v :: r, o, _, _, h => below_setCells hB r (o + 1) (h.setCell (p := ⟨b, o, none⟩) hB v)

theorem lotL_len (k : Nat) : (lotL k).length = 6 := rfl
theorem zeroL_len : zeroL.length = 6 := rfl
theorem pick_len (j k : Nat) : (if j < k then lotL j else zeroL).length = 6 := by split <;> rfl

theorem LW.step {w : World} {N k : Nat} {wr : World} (h : LW w N k wr) (hk : k < N) : LW w N (k + 1) ((wr.setCells w.heap.size (k * 6) (lotL k)).alloc (.cells (lotL k).toArray 29)) := by
  have hz : (wr.setCells w.heap.size (k * 6) (lotL k)).heap.size = wr.heap.size := size_setCells _ _ _ _
  refine ⟨(below_setCells (Nat.le_refl _) _ _ h.below).alloc (by rw [hz]; exact Nat.le_of_lt h.lt) _, fun a => ?_, ?_, fun j hj i v hv => ?_⟩
  · rw [frozen?_alloc_cells, World.frozen?_setCells, h.fz]
  · simp [hz]; have := h.lt; omega
  · have hi : i < 6 := by
      have := (List.getElem?_eq_some_iff.1 hv).1
      rw [pick_len] at this; exact this
    rw [World.cell?_alloc_lt _ _ _ (by rw [hz]; exact h.lt)]
    by_cases hjk : j = k
    · subst hjk
      rw [if_pos (Nat.lt_succ_self j)] at hv
      have hin := World.cell?_setCells_in w.heap.size (lotL j) (j * 6) wr (fun q hq => by
        rw [lotL_len] at hq
        obtain ⟨u, hu⟩ : ∃ u, zeroL[q]? = some u := ⟨_, List.getElem?_eq_getElem (by rw [zeroL_len]; exact hq)⟩
        rw [h.row j hj q u (by rw [if_neg (Nat.lt_irrefl j)]; exact hu)]; rfl) i hi
      rw [hin, ← hv]
      exact (List.getElem?_eq_getElem (by rw [lotL_len]; exact hi)).symm
    · rw [World.cell?_setCells_out _ _ _ _ _ (fun _ _ => by rw [lotL_len]; show j * 6 + i < k * 6 ∨ k * 6 + 6 ≤ j * 6 + i; omega)]
      refine h.row j hj i v ?_
      by_cases hl : j < k
      · rw [if_pos (by omega)] at hv; rw [if_pos hl]; exact hv
      · rw [if_neg (by omega)] at hv; rw [if_neg hl]; exact hv

theorem made_at (N o i : Nat) (v : Value) (ho : o < N * 6) (hm : o % 6 = i) (hv : zeroL[i]? = some v) : (madeCells zeroL.toArray (N * 6))[o]? = some v := by
  have e : (madeCells zeroL.toArray (N * 6))[o]? = some (zeroL.toArray[o % 6]!) := by
    simp only [madeCells, Array.getElem?_map]
    rw [Array.getElem?_eq_getElem (by simpa using ho)]
    simp only [Array.getElem_range, Option.map_some]
    rfl
  rw [e, hm]
  have hi : i < 6 := by omega
  have : zeroL.toArray[i]! = zeroL[i]?.getD default := by simp
  rw [this, hv]; rfl

theorem LW.start (w : World) (N : Nat) : LW w N 0 (w.alloc (.cells (madeCells zeroL.toArray (N * 6)) 29)) := by
  refine ⟨(Below.refl _ _).alloc (Nat.le_refl _) _, fun a => frozen?_alloc_cells _ _ _ _, by simp, fun j hj i v hv => ?_⟩
  rw [if_neg (by omega)] at hv
  have hi : i < 6 := (List.getElem?_eq_some_iff.1 hv).1
  refine at_new rfl ?_
  have hlt : j * 6 + i < N * 6 := by omega
  have hm : (j * 6 + i) % 6 = i := by omega
  exact made_at N _ _ _ hlt hm hv
end Go.Proofs.Ybulkfrvg
