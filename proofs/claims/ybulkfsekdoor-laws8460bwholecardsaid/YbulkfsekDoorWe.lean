import Derived.Test.YbulkfsekDoorWd
/-
  WHAT IS KNOWN OF MEMORY IN THE LAW: while the events are laid; behind LamportClocks; while the law counts for itself.
-/
namespace Go.Proofs.YbulkfsekDoor
open Go.RowKit Go.WideMaps Go.Maps

theorem size_setCells (b : Nat) : ∀ (vs : List Value) (o : Nat) (w : World), (w.setCells b o vs).heap.size = w.heap.size
  | [], _, _ => rfl
  | v :: r, o, w => by rw [World.setCells, size_setCells b r, World.size_setCell]
theorem below_setCells {B b : Nat} (hB : B ≤ b) : ∀ (vs : List Value) (o : Nat) {a w : World}, Below B a w → Below B a (w.setCells b o vs)
  | [], _, _, _, h => h
  | v :: r, o, _, _, h => below_setCells hB r (o + 1) (h.setCell (p := ⟨b, o, none⟩) hB v)
theorem zeroE_len : zeroE.length = 4 := rfl
theorem evL_len (ep ek em : Nat → ByteArray) (i : Nat) : (evL ep ek em i).length = 4 := rfl
theorem pick_len (ep ek em : Nat → ByteArray) (j k : Nat) : (if j < k then evL ep ek em j else zeroE).length = 4 := by split <;> rfl

/-- the events while they are laid; B: their block -/
structure FW (w : World) (n k : Nat) (ep ek em : Nat → ByteArray) (wr : World) : Prop where
  below : Below w.heap.size w wr
  lt : w.heap.size < wr.heap.size
  row : ∀ j, j < n → ∀ i v, (if j < k then evL ep ek em j else zeroE)[i]? = some v → wr.cell? ⟨w.heap.size, j * 4 + i, none⟩ = some v
  fz : ∀ j, wr.frozen? ⟨w.heap.size, j, none⟩ = false

theorem made_at (N o i : Nat) (v : Value) (ho : o < N * 4) (hm : o % 4 = i) (hv : zeroE[i]? = some v) : (madeCells zeroE.toArray (N * 4))[o]? = some v := by
  have e : (madeCells zeroE.toArray (N * 4))[o]? = some (zeroE.toArray[o % 4]!) := by
    simp only [madeCells, Array.getElem?_map]
    rw [Array.getElem?_eq_getElem (by simpa using ho)]
    simp only [Array.getElem_range, Option.map_some]
    rfl
  rw [e, hm]
  have hi : i < 4 := by omega
  have : zeroE.toArray[i]! = zeroE[i]?.getD default := by simp
  rw [this, hv]; rfl

theorem FW.start (w : World) (n : Nat) (ep ek em : Nat → ByteArray) : FW w n 0 ep ek em (w.alloc (.cells (madeCells zeroE.toArray (n * 4)) 33)) := by
  refine ⟨(Below.refl _ _).alloc (Nat.le_refl _) _, by simp, fun j hj i v hv => ?_, fun j => fz_new rfl⟩
  rw [if_neg (by omega)] at hv
  have hi : i < 4 := (List.getElem?_eq_some_iff.1 hv).1
  refine at_new rfl ?_
  have hlt : j * 4 + i < n * 4 := by omega
  have hm : (j * 4 + i) % 4 = i := by omega
  exact made_at n _ _ _ hlt hm hv

theorem FW.alloc {w : World} {n k : Nat} {ep ek em : Nat → ByteArray} {wr : World} (h : FW w n k ep ek em wr) (o : Obj) : FW w n k ep ek em (wr.alloc o) :=
  ⟨h.below.alloc (Nat.le_of_lt h.lt) _, by have := h.lt; simp; omega, fun j hj i v hv => cell_old _ (h.row j hj i v hv), fun j => fz_old _ h.lt (h.fz j)⟩
theorem FW.drawn {w : World} {n k : Nat} {ep ek em : Nat → ByteArray} {wr : World} (h : FW w n k ep ek em wr) (m : Nat) : FW w n k ep ek em (wr.drewN m) :=
  ⟨below_drawn h.below m, h.lt, h.row, h.fz⟩
theorem FW.step {w : World} {n k : Nat} {ep ek em : Nat → ByteArray} {wr : World} (h : FW w n k ep ek em wr) (hk : k < n) : FW w n (k + 1) ep ek em (wr.setCells w.heap.size (k * 4) (evL ep ek em k)) := by
  have hz : (wr.setCells w.heap.size (k * 4) (evL ep ek em k)).heap.size = wr.heap.size := size_setCells _ _ _ _
  refine ⟨below_setCells (Nat.le_refl _) _ _ h.below, by rw [hz]; exact h.lt, fun j hj i v hv => ?_, fun j => by rw [World.frozen?_setCells]; exact h.fz j⟩
  have hi : i < 4 := by
    have := (List.getElem?_eq_some_iff.1 hv).1
    rw [pick_len] at this; exact this
  by_cases hjk : j = k
  · subst hjk
    rw [if_pos (Nat.lt_succ_self j)] at hv
    have hin := World.cell?_setCells_in w.heap.size (evL ep ek em j) (j * 4) wr (fun q hq => by
      rw [evL_len] at hq
      obtain ⟨u, hu⟩ : ∃ u, zeroE[q]? = some u := ⟨_, List.getElem?_eq_getElem (by rw [zeroE_len]; exact hq)⟩
      rw [h.row j hj q u (by rw [if_neg (Nat.lt_irrefl j)]; exact hu)]; rfl) i hi
    rw [hin, ← hv]
    exact (List.getElem?_eq_getElem (by rw [evL_len]; exact hi)).symm
  · rw [World.cell?_setCells_out _ _ _ _ _ (fun _ _ => by rw [evL_len]; show j * 4 + i < k * 4 ∨ k * 4 + 4 ≤ j * 4 + i; omega)]
    refine h.row j hj i v ?_
    by_cases hl : j < k
    · rw [if_pos (by omega)] at hv; rw [if_pos hl]; exact hv
    · rw [if_neg (by omega)] at hv; rw [if_neg hl]; exact hv
theorem FW.ev {w : World} {n : Nat} {ep ek em : Nat → ByteArray} {wr : World} (h : FW w n n ep ek em wr) : EV wr w.heap.size n ep ek em := by
  intro i hi
  have r : ∀ f v, (evL ep ek em i)[f]? = some v → wr.cell? ⟨w.heap.size, i * 4 + f, none⟩ = some v := fun f v hv => h.row i hi f v (by rw [if_pos hi]; exact hv)
  exact ⟨r 0 _ rfl, r 1 _ rfl, r 2 _ rfl, r 3 _ rfl⟩

/-- memory behind LamportClocks -/
structure RW (w : World) (n eb kb rb cb : Nat) (ep ek em : Nat → ByteArray) (W : World) : Prop where
  below : Below w.heap.size w W
  ev : EV W eb n ep ek em
  kv : EV W kb n ep ek em
  run : W.cell? ⟨rb, 0, none⟩ = some (.slice (some ⟨eb, 0, none⟩) n n)
  got : ∀ j, j < n → W.cell? ⟨cb, j, none⟩ = some (.int .u64 (Pl.ck ep ek em j : Int))
theorem EV.to {W W' : World} {eb n : Nat} {ep ek em : Nat → ByteArray} (h : EV W eb n ep ek em) (hb : Below W.heap.size W W') : EV W' eb n ep ek em := fun i hi => by
  obtain ⟨a, b, c, d⟩ := h i hi
  exact ⟨(hb.cell (World.block_lt_of_cell? _ _ a)).trans a, (hb.cell (World.block_lt_of_cell? _ _ b)).trans b, (hb.cell (World.block_lt_of_cell? _ _ c)).trans c, (hb.cell (World.block_lt_of_cell? _ _ d)).trans d⟩
theorem RW.to {w : World} {n eb kb rb cb : Nat} {ep ek em : Nat → ByteArray} {W W' : World} (h : RW w n eb kb rb cb ep ek em W) (hb : Below W.heap.size W W') : RW w n eb kb rb cb ep ek em W' :=
  ⟨h.below.trans (hb.mono h.below.size), h.ev.to hb, h.kv.to hb, (hb.cell (World.block_lt_of_cell? _ _ h.run)).trans h.run, fun j hj => (hb.cell (World.block_lt_of_cell? _ _ (h.got j hj))).trans (h.got j hj)⟩

/-- memory behind Clone -/
theorem rw_lam {w W0 W1 W : World} {n eb kb cap : Nat} {ep ek em : Nat → ByteArray} (hb0 : Below w.heap.size w W0) (hE : EV W0 eb n ep ek em) (hC : ∃ e, ClonePost W0 n ep ek em e W1 ∧ e = .returned (.slice (some ⟨kb, 0, none⟩) n cap)) (T : TypeId)
    (hL : LC (W1.alloc (.cells #[.slice (some ⟨eb, 0, none⟩) n n] T)) n n ep ek em W) : RW w n eb kb W1.heap.size (W1.heap.size + 3) ep ek em W := by
  obtain ⟨_, ⟨kb', cap', rfl, _, hk2, _, hkv, hB⟩, he⟩ := hC
  injection he with he
  injection he with he _ _
  injection he with he
  injection he with he
  subst he
  have hB2 : Below W1.heap.size W1 (W1.alloc (.cells #[.slice (some ⟨eb, 0, none⟩) n n] T)) := (Below.refl _ _).alloc (Nat.le_refl _) _
  have hz : (W1.alloc (.cells #[.slice (some ⟨eb, 0, none⟩) n n] T)).heap.size = W1.heap.size + 1 := by simp
  have hB3 : Below W1.heap.size W1 W := hB2.trans (hL.below.mono (by rw [hz]; omega))
  refine ⟨(hb0.trans (hB.mono hb0.size)).trans (hB3.mono (Nat.le_trans hb0.size hB.size)), (hE.to hB).to hB3, hkv.to hB3, ?_, fun j hj => ?_⟩
  · have h0 : (W1.alloc (.cells #[.slice (some ⟨eb, 0, none⟩) n n] T)).cell? ⟨W1.heap.size, 0, none⟩ = some (.slice (some ⟨eb, 0, none⟩) n n) := at_new rfl rfl
    exact (hL.below.cell (World.block_lt_of_cell? _ _ h0)).trans h0
  · have := hL.cells j hj
    rw [hz, if_pos hj] at this
    exact this

/-- the law's own count -/
structure WT (W : World) (n k : Nat) (ck : Nat → Nat) (wr : World) : Prop where
  below : Below W.heap.size W wr
  lt : W.heap.size < wr.heap.size
  cells : ∀ j, j < n → wr.cell? ⟨W.heap.size, j, none⟩ = some (.int .u64 ((if j < k then ck j else 0 : Nat) : Int))
  fz : ∀ j, wr.frozen? ⟨W.heap.size, j, none⟩ = false
theorem WT.start (W : World) (n : Nat) (ck : Nat → Nat) : WT W n 0 ck (W.alloc (.cells (madeCells #[.int .u64 0] n) 40)) := by
  refine ⟨(Below.refl _ _).alloc (Nat.le_refl _) _, by simp, fun j hj => at_new rfl ?_, fun j => fz_new rfl⟩
  rw [madeU_at n j hj]; simp
theorem WT.drawn {W : World} {n k : Nat} {ck : Nat → Nat} {wr : World} (h : WT W n k ck wr) (m : Nat) : WT W n k ck (wr.drewN m) :=
  ⟨below_drawn h.below m, h.lt, h.cells, h.fz⟩
theorem WT.step {W : World} {n k : Nat} {ck : Nat → Nat} {wr : World} (h : WT W n k ck wr) (hk : k < n) (x : Int) (hx : x = (ck k : Int)) : WT W n (k + 1) ck (wr.setCell ⟨W.heap.size, k, none⟩ (.int .u64 x)) := by
  subst hx
  refine ⟨h.below.setCell (p := ⟨W.heap.size, k, none⟩) (Nat.le_refl _) _, by rw [World.size_setCell]; exact h.lt, fun j hj => ?_, fun j => by rw [World.frozen?_setCell]; exact h.fz j⟩
  by_cases e : j = k
  · subst e
    rw [World.cell?_setCell_same _ _ _ (h.cells j hj), if_pos (Nat.lt_succ_self j)]
  · rw [World.cell?_setCell_other _ _ _ _ (fun q => by injection q with q1 q2; exact e q2.symm), h.cells j hj]
    by_cases hl : j < k
    · rw [if_pos hl, if_pos (by omega)]
    · rw [if_neg hl, if_neg (by omega)]
end Go.Proofs.YbulkfsekDoor
