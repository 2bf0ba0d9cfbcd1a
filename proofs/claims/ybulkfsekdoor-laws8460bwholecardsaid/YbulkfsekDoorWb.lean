import Derived.Test.YbulkfsekDoorWa
import Derived.Laws.IdiomCopy
/-
  LamportClocks: what is known of memory while the clocks are counted, and the walk.
-/
namespace Go.Proofs.YbulkfsekDoor
open Go.RowKit Go.WideMaps Go.Maps

theorem info40 : (Ybad.prog.info? 40).map (fun i => (i.zero, i.size, i.bytes)) = some (some (.int .u64 0), 1, 8) := by kernel_rfl
theorem info33 : (Ybad.prog.info? 33).map (fun i => (i.zero, i.size, i.bytes)) = some (some (.agg #[.string ⟨#[]⟩, .string ⟨#[]⟩, .string ⟨#[]⟩, .string ⟨#[]⟩]), 4, 64) := by kernel_rfl
theorem mkU (w : World) (n : Nat) (hn : n ≤ 4096) : (Instr.makeSlice 38 (.int .i64 (n : Int)) (.int .i64 (n : Int))).run Ybad.prog w = .ok (.slice (some ⟨w.heap.size, 0, none⟩) n n) (w.alloc (.cells (madeCells #[.int .u64 0] n) 40)) := by
  obtain ⟨i0, hi0, hz0, hz1, hz2⟩ := info_parts info40
  have := run_makeSlice (P := Ybad.prog) w 38 40 i0 _ Ybad.underlying38 hi0 hz0 .i64 .i64 (n : Int) (n : Int) (by omega) (Int.le_refl _) (by rw [hz1]; omega) (by rw [hz2]; omega) (by omega)
  rw [hz1, Nat.mul_one] at this
  exact this
def zeroE : List Value := [.string ⟨#[]⟩, .string ⟨#[]⟩, .string ⟨#[]⟩, .string ⟨#[]⟩]
theorem mkE (w : World) (n : Nat) (hn : n ≤ 4096) : (Instr.makeSlice 26 (.int .i64 (n : Int)) (.int .i64 (n : Int))).run Ybad.prog w = .ok (.slice (some ⟨w.heap.size, 0, none⟩) n n) (w.alloc (.cells (madeCells zeroE.toArray (n * 4)) 33)) := by
  obtain ⟨i0, hi0, hz0, hz1, hz2⟩ := info_parts info33
  have := run_makeSlice (P := Ybad.prog) w 26 33 i0 _ Ybad.underlying26 hi0 hz0 .i64 .i64 (n : Int) (n : Int) (by omega) (Int.le_refl _) (by rw [hz1]; omega) (by rw [hz2]; omega) (by omega)
  rw [hz1] at this
  exact this

theorem at_new {w : World} {c : Array Value} {t : TypeId} {b i : Nat} {v : Value} (hb : b = w.heap.size) (hv : c[i]? = some v) : (w.alloc (.cells c t)).cell? ⟨b, i, none⟩ = some v := by
  subst hb; rw [World.cell?_alloc_new]; exact hv
theorem fz_new {w : World} {c : Array Value} {t : TypeId} {b i : Nat} (hb : b = w.heap.size) : (w.alloc (.cells c t)).frozen? ⟨b, i, none⟩ = false := by
  subst hb; exact World.frozen?_alloc_new _ _ _ _
theorem out_frozen (w : World) (o : Nat) : w.frozen? ⟨w.heap.size, o, none⟩ = false := by simp [World.frozen?]
theorem cell_old {w : World} {p : Addr} {v : Value} (o : Obj) (h : w.cell? p = some v) : (w.alloc o).cell? p = some v := by
  rw [World.cell?_alloc_lt _ _ _ (World.block_lt_of_cell? _ _ h)]; exact h
theorem fz_old {w : World} {b i : Nat} (o : Obj) (hb : b < w.heap.size) (h : w.frozen? ⟨b, i, none⟩ = false) : (w.alloc o).frozen? ⟨b, i, none⟩ = false := by
  rw [World.frozen?_alloc_old _ _ _ (Nat.ne_of_lt hb)]; exact h
theorem fz_block {w w' : World} {p : Addr} (h : w'.heap[p.block]? = w.heap[p.block]?) : w'.frozen? p = w.frozen? p := by
  unfold World.frozen?; rw [h]
theorem below_drawn {B : Nat} {a w : World} (h : Below B a w) (n : Nat) : Below B a (w.drewN n) := ⟨h.os, h.tape, h.output, h.size, h.block⟩
theorem madeU_at (n j : Nat) (h : j < n) : (madeCells #[.int .u64 0] n)[j]? = some (.int .u64 0) := by
  simp only [madeCells, Array.getElem?_map]
  rw [Array.getElem?_eq_getElem (by simpa using h)]
  simp [Nat.mod_one]
theorem cell_grown {w w' : World} {row : Option Nat} (hg : w.grownBy w' row) {p : Addr} {v : Value} (hp : w.cell? p = some v) (hne : some p.block ≠ row) : w'.cell? p = some v := by
  rw [World.cell?_of_block (w := w) (hg.block p.block (World.block_lt_of_cell? _ _ hp) hne)]; exact hp
theorem fz_grown {w w' : World} {row : Option Nat} (hg : w.grownBy w' row) {p : Addr} (hb : p.block < w.heap.size) (h : w.frozen? p = false) (hne : some p.block ≠ row) : w'.frozen? p = false := by
  rw [fz_block (hg.block p.block hb hne)]; exact h

/-- the events' cells -/
def EV (w : World) (eb n : Nat) (ep ek em : Nat → ByteArray) : Prop := ∀ i, i < n → w.cell? ⟨eb, i * 4, none⟩ = some (.string (ep i)) ∧ w.cell? ⟨eb, i * 4 + 1, none⟩ = some (.string ⟨#[101]⟩) ∧ w.cell? ⟨eb, i * 4 + 2, none⟩ = some (.string (ek i)) ∧ w.cell? ⟨eb, i * 4 + 3, none⟩ = some (.string (em i))

/-- memory while the clocks are counted -/
structure LC (w : World) (n k : Nat) (ep ek em : Nat → ByteArray) (wr : World) : Prop where
  below : Below w.heap.size w wr
  size : w.heap.size + 3 ≤ wr.heap.size
  cur : MapAt wr w.heap.size k (Pl.stp ep ek em k).1
  car : MapAt wr (w.heap.size + 1) k (Pl.stp ep ek em k).2
  cells : ∀ j, j < n → wr.cell? ⟨w.heap.size + 2, j, none⟩ = some (.int .u64 ((if j < k then Pl.ck ep ek em j else 0 : Nat) : Int))
  fz : ∀ j, wr.frozen? ⟨w.heap.size + 2, j, none⟩ = false

theorem LC.start (w : World) (n : Nat) (ep ek em : Nat → ByteArray) : LC w n 0 ep ek em (((w.alloc (.map #[] 0)).alloc (.map #[] 0)).alloc (.cells (madeCells #[.int .u64 0] n) 40)) := by
  refine ⟨(((Below.refl _ _).alloc (Nat.le_refl _) _).alloc (by simp) _).alloc (by simp; omega) _, by simp, ((map_new w _ rfl).alloc _).alloc _, (map_new _ _ (by simp)).alloc _, fun j hj => ?_, fun j => fz_new (by simp)⟩
  refine at_new (by simp) ?_
  rw [madeU_at n j hj]; simp

theorem grown_setCell (w : World) (a : Addr) (u : Value) : w.grownBy (w.setCell a u) (some a.block) :=
  ⟨rfl, rfl, rfl, by simp, fun k _ hk => Below.heap_setCell _ _ _ k (fun e => hk (by rw [e]))⟩

/-- behind a round's two puts the clock is stored -/
theorem LC.step {w : World} {n k : Nat} {ep ek em : Nat → ByteArray} {wr w2 : World} (h : LC w n k ep ek em wr) (hk : k < n) (hb : Below w.heap.size w w2) (hz : w.heap.size + 3 ≤ w2.heap.size)
    (m1 : MapAt w2 w.heap.size (k + 1) (Pl.stp ep ek em (k + 1)).1) (m2 : MapAt w2 (w.heap.size + 1) (k + 1) (Pl.stp ep ek em (k + 1)).2)
    (hc : ∀ j v, wr.cell? ⟨w.heap.size + 2, j, none⟩ = some v → w2.cell? ⟨w.heap.size + 2, j, none⟩ = some v) (hf : ∀ j, w2.frozen? ⟨w.heap.size + 2, j, none⟩ = false) :
    LC w n (k + 1) ep ek em (w2.setCell ⟨w.heap.size + 2, k, none⟩ (.int .u64 (Pl.ck ep ek em k : Int))) := by
  have hg := grown_setCell w2 ⟨w.heap.size + 2, k, none⟩ (.int .u64 (Pl.ck ep ek em k : Int))
  refine ⟨hb.grown hg (by omega) (fun q hq => by injection hq with hq; show w.heap.size ≤ q; rw [← hq]; show _ ≤ w.heap.size + 2; omega), by rw [World.size_setCell]; exact hz, m1.kept hg (by simp), m2.kept hg (by simp), fun j hj => ?_, fun j => by rw [World.frozen?_setCell]; exact hf j⟩
  by_cases e : j = k
  · subst e
    rw [World.cell?_setCell_same _ _ _ (hc j _ (h.cells j hj)), if_pos (Nat.lt_succ_self j)]
  · rw [World.cell?_setCell_other _ _ _ _ (fun q => by injection q with q1 q2; exact e q2.symm), hc j _ (h.cells j hj)]
    by_cases hl : j < k
    · rw [if_pos hl, if_pos (by omega)]
    · rw [if_neg hl, if_neg (by omega)]

theorem str_eq (a b : ByteArray) : (a.toList == b.toList) = decide (a = b) := by
  rw [ByteArray.toList_eq, ByteArray.toList_eq]
  by_cases h : a = b
  · subst h; simp
  · have hn : ¬ a.data = b.data := fun e => h (by cases a; cases b; congr 1)
    simp [h, hn]
theorem re_eq (a : ByteArray) : (a.toList == [114, 101, 99, 101, 105, 118, 101]) = decide (a = Pl.reS) := by
  rw [← str_eq, show Pl.reS.toList = [114, 101, 99, 101, 105, 118, 101] from ByteArray.toList_eq _]
theorem se_eq (a : ByteArray) : (a.toList == [115, 101, 110, 100]) = decide (a = Pl.seS) := by
  rw [← str_eq, show Pl.seS.toList = [115, 101, 110, 100] from ByteArray.toList_eq _]

end Go.Proofs.YbulkfsekDoor
