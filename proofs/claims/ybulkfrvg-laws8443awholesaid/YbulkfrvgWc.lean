import Derived.Test.YbulkfrvgWb
/-
  WHAT newLot LEAVES, cell by cell.
-/
namespace Go.Proofs.Ybulkfrvg
open Go.RowKit

theorem cell_old {w : World} {p : Addr} {v : Value} (o : Obj) (h : w.cell? p = some v) : (w.alloc o).cell? p = some v := by
  rw [World.cell?_alloc_lt _ _ _ (World.block_lt_of_cell? _ _ h)]; exact h
theorem cell_drawn (w : World) (m : Nat) (p : Addr) : (w.drewN m).cell? p = w.cell? p := rfl
theorem fz_drawn (w : World) (m : Nat) (p : Addr) : (w.drewN m).frozen? p = w.frozen? p := rfl

theorem below_drawn {B : Nat} {a w : World} (h : Below B a w) (n : Nat) : Below B a (w.drewN n) := ⟨h.os, h.tape, h.output, h.size, h.block⟩
/-- memory after newLot: of what was there nothing has turned but the block's slice and the six new cells -/
structure Nw (W : World) (rb b o : Nat) (sl : Value) (L : List Value) (W' : World) : Prop where
  size : W.heap.size ≤ W'.heap.size
  blk : b < W'.heap.size
  keep : ∀ p v, W.cell? p = some v → p ≠ ⟨rb, 12, none⟩ → (p.block = b → p.spot = none → p.off < o ∨ o + 6 ≤ p.off) → W'.cell? p = some v
  r12 : W'.cell? ⟨rb, 12, none⟩ = some sl
  new : ∀ i v, L[i]? = some v → W'.cell? ⟨b, o + i, none⟩ = some v
  fz : ∀ a, W'.frozen? a = W.frozen? a
  below : ∀ B w, Below B w W → B ≤ rb → B ≤ b → Below B w W'

theorem nr_nw {W : World} {rb b n ex : Nat} {L : List Value} {e : Ending} {W' : World} (h : NR W rb b n ex L e W') (hL : L.length = 6) (hne : rb ≠ b) (u : Value) (hr : W.cell? ⟨rb, 12, none⟩ = some u) (hz : ∀ i v, zeroL[i]? = some v → W.cell? ⟨b, n * 6 + i, none⟩ = some v) :
    e = .returned (.pointer (some ⟨b, n * 6, none⟩)) ∧ Nw W rb b (n * 6) (.slice (some ⟨b, 0, none⟩) (n + 1) (n + ex)) L W' := by
  obtain ⟨rfl, m0, m, rfl⟩ := h
  refine ⟨rfl, ?_⟩
  obtain ⟨X0, hX0⟩ : ∃ X0 : World, X0 = ((W.alloc (.cells L.toArray 29)).drewN m0) := ⟨_, rfl⟩
  rw [← hX0]
  have z0 : X0.heap.size = W.heap.size + 1 := by rw [hX0]; simp
  have k0 : ∀ p v, W.cell? p = some v → X0.cell? p = some v := fun p v hp => by rw [hX0, cell_drawn]; exact cell_old _ hp
  have f0 : ∀ a, X0.frozen? a = W.frozen? a := fun a => by rw [hX0, fz_drawn, frozen?_alloc_cells]
  have z1 : (X0.setCells b (n * 6) L).heap.size = W.heap.size + 1 := by rw [size_setCells, z0]
  have hbz : b < W.heap.size := World.block_lt_of_cell? _ _ (hz 0 _ rfl)
  have k1 : ∀ p v, W.cell? p = some v → (p.block = b → p.spot = none → p.off < n * 6 ∨ n * 6 + 6 ≤ p.off) → (X0.setCells b (n * 6) L).cell? p = some v := fun p v hp hq => by
    rw [World.cell?_setCells_out _ _ _ _ _ (by rw [hL]; exact hq)]; exact k0 p v hp
  refine ⟨?_, ?_, fun p v hp h1 h2 => ?_, ?_, fun i v hv => ?_, fun a => ?_, fun B w hB h1 h2 => ?_⟩
  · show W.heap.size ≤ (((X0.setCells b (n * 6) L).setCell _ _).alloc _).heap.size
    simp [World.size_setCell, z1]; omega
  · show b < (((X0.setCells b (n * 6) L).setCell _ _).alloc _).heap.size
    simp [World.size_setCell, z1]; omega
  · rw [cell_drawn]
    refine cell_old _ ?_
    rw [World.cell?_setCell_other _ _ _ _ (Ne.symm h1)]
    exact k1 p v hp h2
  · rw [cell_drawn]
    refine cell_old _ (World.cell?_setCell_same _ _ _ (u := u) ?_)
    exact k1 _ _ hr (fun e => absurd e hne)
  · have hi : i < 6 := by have := (List.getElem?_eq_some_iff.1 hv).1; omega
    rw [cell_drawn]
    refine cell_old _ ?_
    rw [World.cell?_setCell_other _ _ _ _ (fun e => by injection e with e1; exact hne e1)]
    have hin := World.cell?_setCells_in b L (n * 6) X0 (fun q hq => by
      obtain ⟨x, hx⟩ : ∃ x, zeroL[q]? = some x := ⟨_, List.getElem?_eq_getElem (by rw [zeroL_len]; omega)⟩
      rw [k0 _ _ (hz q x hx)]; rfl) i (by omega)
    rw [hin, ← hv]
    exact (List.getElem?_eq_getElem (by omega)).symm
  · rw [fz_drawn, frozen?_alloc_cells, World.frozen?_setCell, World.frozen?_setCells, f0]
  · have hB0 : Below B w X0 := by rw [hX0]; exact below_drawn (hB.alloc (by omega) _) m0
    refine below_drawn (((below_setCells h2 _ _ hB0).setCell (p := ⟨rb, 12, none⟩) h1 _).alloc ?_ _) m
    simp [World.size_setCell, z1]; omega

theorem nf_nw {A : Array Value} {W : World} {rb : Nat} {L : List Value} {e : Ending} {W' : World} (h : NF A W rb L e W') (hL : L.length = 6) (hA : ∀ (i : Nat) (v : Value), zeroL[i]? = some v → A[i]? = some v) (u : Value) (hr : W.cell? ⟨rb, 12, none⟩ = some u) :
    e = .returned (.pointer (some ⟨W.heap.size + 1, 0, none⟩)) ∧ Nw W rb (W.heap.size + 1) 0 (.slice (some ⟨W.heap.size + 1, 0, none⟩) 1 1024) L W' := by
  obtain ⟨rfl, m0, m1, m, X0, hX0, rfl⟩ := h
  refine ⟨rfl, ?_⟩
  have hrz : rb < W.heap.size := World.block_lt_of_cell? _ _ hr
  obtain ⟨Y, hY⟩ : ∃ Y : World, Y = (((W.alloc (.cells L.toArray 29)).drewN m0).setCell ⟨rb, 12, none⟩ (.slice (some ⟨W.heap.size + 1, 0, none⟩) 0 1024)) := ⟨_, rfl⟩
  rw [← hY] at hX0
  have zY : Y.heap.size = W.heap.size + 1 := by rw [hY, World.size_setCell]; simp
  have z0 : X0.heap.size = W.heap.size + 2 := by rw [hX0]; simp [zY]
  have rY : Y.cell? ⟨rb, 12, none⟩ = some (.slice (some ⟨W.heap.size + 1, 0, none⟩) 0 1024) := by
    rw [hY]; exact World.cell?_setCell_same _ _ _ (u := u) (by rw [cell_drawn]; exact cell_old _ hr)
  have k0 : ∀ p v, W.cell? p = some v → p ≠ ⟨rb, 12, none⟩ → X0.cell? p = some v := fun p v hp h1 => by
    rw [hX0]
    refine cell_old _ ?_
    rw [hY, World.cell?_setCell_other _ _ _ _ (Ne.symm h1), cell_drawn]; exact cell_old _ hp
  have f0 : ∀ a, X0.frozen? a = W.frozen? a := fun a => by rw [hX0, frozen?_alloc_cells, hY, World.frozen?_setCell, fz_drawn, frozen?_alloc_cells]
  have n0 : ∀ i v, zeroL[i]? = some v → X0.cell? ⟨W.heap.size + 1, i, none⟩ = some v := fun i v hv => by rw [hX0]; exact at_new zY.symm (hA i v hv)
  have z1 : (X0.setCells (W.heap.size + 1) 0 L).heap.size = W.heap.size + 2 := by rw [size_setCells, z0]
  have k1 : ∀ p v, X0.cell? p = some v → p.block ≠ W.heap.size + 1 → (X0.setCells (W.heap.size + 1) 0 L).cell? p = some v := fun p v hp hq => by
    rw [World.cell?_setCells_out _ _ _ _ _ (fun e => absurd e hq)]; exact hp
  refine ⟨?_, ?_, fun p v hp h1 _ => ?_, ?_, fun i v hv => ?_, fun a => ?_, fun B w hB h1 h2 => ?_⟩
  · show W.heap.size ≤ (((X0.setCells (W.heap.size + 1) 0 L).setCell _ _).alloc _).heap.size
    simp [World.size_setCell, z1]; omega
  · show W.heap.size + 1 < (((X0.setCells (W.heap.size + 1) 0 L).setCell _ _).alloc _).heap.size
    simp [World.size_setCell, z1]
  · rw [cell_drawn, cell_drawn]
    refine cell_old _ ?_
    rw [World.cell?_setCell_other _ _ _ _ (Ne.symm h1)]
    exact k1 p v (k0 p v hp h1) (by have := World.block_lt_of_cell? _ _ hp; omega)
  · rw [cell_drawn, cell_drawn]
    refine cell_old _ (World.cell?_setCell_same _ _ _ (u := .slice (some ⟨W.heap.size + 1, 0, none⟩) 0 1024) ?_)
    exact k1 _ _ (by rw [hX0]; exact cell_old _ rY) (by show rb ≠ _; omega)
  · have hi : i < 6 := by have := (List.getElem?_eq_some_iff.1 hv).1; omega
    rw [cell_drawn, cell_drawn]
    refine cell_old _ ?_
    rw [World.cell?_setCell_other _ _ _ _ (fun e => by injection e with e1; omega)]
    have hin := World.cell?_setCells_in (W.heap.size + 1) L 0 X0 (fun q hq => by
      obtain ⟨x, hx⟩ : ∃ x, zeroL[q]? = some x := ⟨_, List.getElem?_eq_getElem (by rw [zeroL_len]; omega)⟩
      rw [Nat.zero_add, n0 q x hx]; rfl) i (by omega)
    rw [hin, ← hv]
    exact (List.getElem?_eq_getElem (by omega)).symm
  · rw [fz_drawn, fz_drawn, frozen?_alloc_cells, World.frozen?_setCell, World.frozen?_setCells, f0]
  · have hB0 : Below B w X0 := by
      rw [hX0, hY]
      exact ((below_drawn (hB.alloc (by omega) _) m0).setCell (p := ⟨rb, 12, none⟩) h1 _).alloc (by rw [← hY, zY]; omega) _
    refine below_drawn (below_drawn (((below_setCells h2 _ _ hB0).setCell (p := ⟨rb, 12, none⟩) h1 _).alloc ?_ _) m1) m
    rw [World.size_setCell, z1]; omega
end Go.Proofs.Ybulkfrvg
