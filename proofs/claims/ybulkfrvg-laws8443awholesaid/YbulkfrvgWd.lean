import Derived.Test.YbulkfrvgWc
/-
  WHAT IS KNOWN BEHIND THE CALL OF newLot, AND THAT IT STAYS.
-/
namespace Go.Proofs.Ybulkfrvg
open Go.RowKit

/-- memory has at most grown -/
def Ex (W W' : World) : Prop := Below W.heap.size W W' ∧ ∀ a, W'.frozen? a = W.frozen? a
theorem Ex.refl (W : World) : Ex W W := ⟨Below.refl _ _, fun _ => rfl⟩
theorem Ex.alloc {W W' : World} (h : Ex W W') (c : Array Value) (t : TypeId) : Ex W (W'.alloc (.cells c t)) := ⟨h.1.alloc h.1.size _, fun a => by rw [frozen?_alloc_cells, h.2]⟩
theorem Ex.drawn {W W' : World} (h : Ex W W') (m : Nat) : Ex W (W'.drewN m) := ⟨below_drawn h.1 m, h.2⟩
theorem Ex.drew {W W' : World} (h : Ex W W') : Ex W W'.drew := h.drawn 1
theorem Ex.cell {W W' : World} (h : Ex W W') {p : Addr} {v : Value} (hp : W.cell? p = some v) : W'.cell? p = some v := by
  rw [h.1.cell (World.block_lt_of_cell? _ _ hp)]; exact hp

def regR (b n c : Nat) : Array Value := #[.string ⟨#[100]⟩, .pointer none, .map none, .slice none 0 0, .pointer none, .pointer none, .string ⟨#[114, 101, 103]⟩, .slice none 0 0, .map none, .map none, .slice none 0 0, .map none, .slice (some ⟨b, 0, none⟩) n c, .slice none 0 0, .pointer none]

structure AF (w : World) (n : Nat) (rb lb : Nat) (L : List Value) (W : World) : Prop where
  below : Below w.heap.size w W
  fz : ∀ a, W.frozen? a = w.frozen? a
  bz : w.heap.size < W.heap.size
  rz : rb < W.heap.size
  lz : lb < W.heap.size
  lots : ∀ j, j < n → ∀ i v, (lotL j)[i]? = some v → W.cell? ⟨w.heap.size, j * 6 + i, none⟩ = some v
  r0 : W.cell? ⟨rb, 0, none⟩ = some (.string ⟨#[100]⟩)
  r3 : W.cell? ⟨rb, 3, none⟩ = some (.slice none 0 0)
  r5 : W.cell? ⟨rb, 5, none⟩ = some (.pointer none)
  r6 : W.cell? ⟨rb, 6, none⟩ = some (.string ⟨#[114, 101, 103]⟩)
  r13 : W.cell? ⟨rb, 13, none⟩ = some (.slice none 0 0)
  l : ∀ i v, L[i]? = some v → W.cell? ⟨lb, i, none⟩ = some v

theorem AF.to {w : World} {n rb lb : Nat} {L : List Value} {W W' : World} (h : AF w n rb lb L W) (e : Ex W W') : AF w n rb lb L W' :=
  ⟨h.below.trans (e.1.mono h.below.size), fun a => by rw [e.2, h.fz], Nat.lt_of_lt_of_le h.bz e.1.size, Nat.lt_of_lt_of_le h.rz e.1.size, Nat.lt_of_lt_of_le h.lz e.1.size, fun j hj i v hv => e.cell (h.lots j hj i v hv), e.cell h.r0, e.cell h.r3, e.cell h.r5, e.cell h.r6, e.cell h.r13, fun i v hv => e.cell (h.l i v hv)⟩

/-- memory ahead of the call -/
theorem af_start {w : World} {N n : Nat} {wr : World} (h : LW w N n wr) (hnN : n ≤ N) (c : Nat) (L : List Value) :
    AF w n wr.heap.size (wr.heap.size + 1) L ((wr.alloc (.cells (regR w.heap.size n c) 45)).alloc (.cells L.toArray 29)) := by
  have hb := h.lt
  have ho : ∀ p v, wr.cell? p = some v → ((wr.alloc (.cells (regR w.heap.size n c) 45)).alloc (.cells L.toArray 29)).cell? p = some v := fun p v hp => cell_old _ (cell_old _ hp)
  refine ⟨(h.below.alloc (Nat.le_of_lt hb) _).alloc (by simp; omega) _, fun a => by rw [frozen?_alloc_cells, frozen?_alloc_cells, h.fz], by simp; omega, by simp; omega, by simp, fun j hj i v hv => ?_, ?_, ?_, ?_, ?_, ?_, fun i v hv => ?_⟩
  · exact ho _ _ (h.row j (by omega) i v (by rw [if_pos hj]; exact hv))
  · exact cell_old _ (at_new rfl rfl)
  · exact cell_old _ (at_new rfl rfl)
  · exact cell_old _ (at_new rfl rfl)
  · exact cell_old _ (at_new rfl rfl)
  · exact cell_old _ (at_new rfl rfl)
  · exact at_new (by simp) (by simpa using hv)

theorem af_nw {w : World} {n rb lb : Nat} {L : List Value} {W : World} (h : AF w n rb lb L W) {b o : Nat} {sl : Value} {W' : World} (hN : Nw W rb b o sl L W') (hB : w.heap.size ≤ rb) (hb : w.heap.size ≤ b) (hbr : rb ≠ b) (hbl : lb ≠ b) (hrl : rb ≠ lb) (hwr : rb ≠ w.heap.size) (ho : b = w.heap.size → n * 6 ≤ o) : AF w n rb lb L W' := by
  have hz := hN.size
  have kr : ∀ i v, i ≠ 12 → W.cell? ⟨rb, i, none⟩ = some v → W'.cell? ⟨rb, i, none⟩ = some v := fun i v hi hc => hN.keep _ _ hc (fun e => by injection e with e1 e2; exact hi e2) (fun e => absurd e hbr)
  refine ⟨hN.below _ _ h.below hB hb, fun a => by rw [hN.fz, h.fz], by have := h.bz; omega, by have := h.rz; omega, by have := h.lz; omega, fun j hj i v hv => ?_, kr _ _ (by decide) h.r0, kr _ _ (by decide) h.r3, kr _ _ (by decide) h.r5, kr _ _ (by decide) h.r6, kr _ _ (by decide) h.r13, fun i v hv => ?_⟩
  · have hi : i < 6 := (List.getElem?_eq_some_iff.1 hv).1
    refine hN.keep _ _ (h.lots j hj i v hv) (fun e => by injection e with e1; exact hwr e1.symm) (fun e _ => Or.inl ?_)
    have := ho e.symm
    show j * 6 + i < o
    omega
  · exact hN.keep _ _ (h.l i v hv) (fun e => by injection e with e1; exact hrl e1.symm) (fun e => absurd e hbl)
end Go.Proofs.Ybulkfrvg
