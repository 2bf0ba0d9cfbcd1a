import Derived.Test.YboneseleGreatFmtRows
import Derived.WalkKit
import Derived.WalkSpells
import Derived.WalkLawsBesides
import Derived.Deep.LoopGhost
import Derived.Deep.QuietTactic
import Derived.BigQuiet
import Derived.Deep.RegionWith
import Derived.Defers
import Derived.Test.YboneseleGreatFmtPl
/-
  THE GROUND OF THE WALKS: 'Keep b': every block but b is as it was; 'PB': what the parser's own block holds.
-/
namespace Go.Proofs.YboneseleGreatFmt
open Go.RowKit

/-- nothing that was there has turned but, at most, block b; new blocks may have come -/
structure Keep (b : Nat) (w w' : World) : Prop where
  os : w'.os = w.os
  tape : w'.tape = w.tape
  output : w'.output = w.output
  size : w.heap.size ≤ w'.heap.size
  block : ∀ k, k < w.heap.size → k ≠ b → w'.heap[k]? = w.heap[k]?

theorem Keep.refl (b : Nat) (w : World) : Keep b w w := ⟨rfl, rfl, rfl, Nat.le_refl _, fun _ _ _ => rfl⟩
theorem Keep.trans {b : Nat} {u v w : World} (h : Keep b u v) (k : Keep b v w) : Keep b u w :=
  ⟨k.os.trans h.os, k.tape.trans h.tape, k.output.trans h.output, Nat.le_trans h.size k.size, fun i hi hb => (k.block i (Nat.lt_of_lt_of_le hi h.size) hb).trans (h.block i hi hb)⟩
theorem Keep.drew {b : Nat} {u w : World} (h : Keep b u w) : Keep b u w.drew := ⟨h.os, h.tape, h.output, h.size, h.block⟩
theorem Keep.drewN {b : Nat} {u w : World} (h : Keep b u w) (n : Nat) : Keep b u (w.drewN n) := ⟨h.os, h.tape, h.output, h.size, h.block⟩
theorem Keep.alloc {b : Nat} {u w : World} (h : Keep b u w) (o : Obj) : Keep b u (w.alloc o) :=
  h.trans ⟨rfl, rfl, rfl, by simp, fun k hk _ => Below.heap_alloc _ _ _ hk⟩
theorem Keep.setCell {b : Nat} {u w : World} (h : Keep b u w) (o : Nat) (v : Value) : Keep b u (w.setCell ⟨b, o, none⟩ v) :=
  h.trans ⟨rfl, rfl, rfl, by simp, fun k _ hb => Below.heap_setCell _ _ _ _ hb⟩
/-- a store into a block that came later -/
theorem Keep.setNew {b : Nat} {u w : World} (h : Keep b u w) {p : Addr} (hp : u.heap.size ≤ p.block) (v : Value) : Keep b u (w.setCell p v) :=
  ⟨h.os, h.tape, h.output, by simpa using h.size, fun k hk hb => by rw [Below.heap_setCell _ _ _ _ (by omega)]; exact h.block k hk hb⟩
theorem Keep.below {b : Nat} {u v w : World} (h : Keep b u v) (k : Below v.heap.size v w) : Keep b u w :=
  h.trans ⟨k.os, k.tape, k.output, k.size, fun i hi _ => k.block i hi⟩
theorem Keep.grown {b : Nat} {u v w : World} {row : Option Nat} (h : Keep b u v) (hg : v.grownBy w row) (hr : ∀ k, row = some k → u.heap.size ≤ k) : Keep b u w :=
  ⟨hg.os.trans h.os, hg.tape.trans h.tape, hg.output.trans h.output, Nat.le_trans h.size hg.size, fun k hk hb => by
    rw [hg.block k (Nat.lt_of_lt_of_le hk h.size) (fun e => by have := hr k e.symm; omega)]; exact h.block k hk hb⟩
/-- the block itself is newer than what is asked for -/
theorem Keep.toBelow {b B : Nat} {u w : World} (h : Keep b u w) (hB : B ≤ b) (hs : B ≤ u.heap.size) : Below B u w :=
  ⟨h.os, h.tape, h.output, h.size, fun k hk => h.block k (by omega) (by omega)⟩
theorem Keep.cell {b : Nat} {u w : World} (h : Keep b u w) {p : Addr} (hp : p.block < u.heap.size) (hb : p.block ≠ b) : w.cell? p = u.cell? p := World.cell?_of_block (w := u) (h.block p.block hp hb)

/-- what the parser's block holds -/
def PB (w : World) (b : Nat) (s : ByteArray) (i d : Nat) (er : Value) : Prop := w.heap[b]? = some (.cells #[.string s, .int .i64 (i : Int), .int .i64 (d : Int), er] 91)

section
variable {w : World} {b : Nat} {s : ByteArray} {i d : Nat} {er : Value}
theorem PB.lt (h : PB w b s i d er) : b < w.heap.size := by
  rcases Nat.lt_or_ge b w.heap.size with k | k
  · exact k
  · unfold PB at h; rw [Array.getElem?_eq_none k] at h; cases h
theorem PB.c0 (h : PB w b s i d er) : w.cell? ⟨b, 0, none⟩ = some (.string s) := by unfold PB at h; simp [World.cell?, h]
theorem PB.c1 (h : PB w b s i d er) : w.cell? ⟨b, 1, none⟩ = some (.int .i64 (i : Int)) := by unfold PB at h; simp [World.cell?, h]
theorem PB.c2 (h : PB w b s i d er) : w.cell? ⟨b, 2, none⟩ = some (.int .i64 (d : Int)) := by unfold PB at h; simp [World.cell?, h]
theorem PB.c3 (h : PB w b s i d er) : w.cell? ⟨b, 3, none⟩ = some er := by unfold PB at h; simp [World.cell?, h]
theorem PB.fz (h : PB w b s i d er) (o : Nat) : w.frozen? ⟨b, o, none⟩ = false := by unfold PB at h; simp [World.frozen?, h]
theorem PB.drew (h : PB w b s i d er) : PB w.drew b s i d er := h
theorem PB.drewN (h : PB w b s i d er) (n : Nat) : PB (w.drewN n) b s i d er := h
theorem PB.alloc (h : PB w b s i d er) (o : Obj) : PB (w.alloc o) b s i d er := by
  unfold PB; rw [Below.heap_alloc _ _ _ h.lt]; exact h
theorem PB.other (h : PB w b s i d er) {p : Addr} (hp : b ≠ p.block) (v : Value) : PB (w.setCell p v) b s i d er := by
  unfold PB; rw [Below.heap_setCell _ _ _ _ hp]; exact h
theorem PB.set1 (h : PB w b s i d er) (j : Nat) (x : Int) (hx : x = (j : Int)) : PB (w.setCell ⟨b, 1, none⟩ (.int .i64 x)) b s j d er := by
  subst hx; unfold PB at h ⊢; simp [World.setCell, Array.getElem?_modify, h]
theorem PB.set2 (h : PB w b s i d er) (j : Nat) (x : Int) (hx : x = (j : Int)) : PB (w.setCell ⟨b, 2, none⟩ (.int .i64 x)) b s i j er := by
  subst hx; unfold PB at h ⊢; simp [World.setCell, Array.getElem?_modify, h]
theorem PB.set3 (h : PB w b s i d er) (x : Value) : PB (w.setCell ⟨b, 3, none⟩ x) b s i d x := by
  unfold PB at h ⊢; simp [World.setCell, Array.getElem?_modify, h]
theorem PB.keep (h : PB w b s i d er) {b' : Nat} {w' : World} (k : Keep b' w w') (hb : b ≠ b') : PB w' b s i d er := by
  unfold PB; rw [k.block b h.lt hb]; exact h
theorem PB.below (h : PB w b s i d er) {w' : World} (k : Below w.heap.size w w') : PB w' b s i d er := by
  unfold PB; rw [k.block b h.lt]; exact h
end

end Go.Proofs.YboneseleGreatFmt
