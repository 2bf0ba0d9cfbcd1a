import Derived.Test.YboneseleGreatFmtWg1
/-
  WHAT THE SECOND LOOP HAS BUILT AFTER k ROUNDS: the text, the two accumulators; the argument's bytes.
-/
namespace Go.Proofs.YboneseleGreatFmt
open Go.RowKit

/-- a slice argument's bytes: f j, and 0 past its end -/
def SlIn (w : World) (a : Option Addr) (l : Nat) (f : Nat → Nat) : Prop := (∀ j, f j < 256) ∧ (∀ j, l ≤ j → f j = 0) ∧ (l = 0 ∨ ∃ b off, a = some ⟨b, off, none⟩ ∧ b < w.heap.size ∧ ∀ j, j < l → w.cell? ⟨b, off + j, none⟩ = some (.int .u8 (f j : Int)))

namespace Pl
def sepT (S : Nat → Nat) (k : Nat) : List UInt8 := if k = 0 then [] else sp (S (k - 1))
def txt (S T : Nat → Nat) : Nat → List UInt8
  | 0 => []
  | k + 1 => txt S T k ++ sepT S k ++ tx (T k)
def midA (S : Nat → Nat) (k : Nat) (p : Bool × Bool) : Bool × Bool := if k = 0 then p else if 2 ≤ S (k - 1) % 4 then (p.1 || p.2, true) else p
def ag (vk : Nat → Bool) (S T : Nat → Nat) : Nat → Bool × Bool
  | 0 => (false, true)
  | k + 1 => ((midA S k (ag vk S T k)).1, (midA S k (ag vk S T k)).2 && val vk (T k))
def LL (S T : Nat → Nat) (k : Nat) : List (Nat × Nat) := (List.range k).map fun j => (S j, T (j + 1))
theorem LL_succ (S T : Nat → Nat) (k : Nat) : LL S T (k + 1) = LL S T k ++ [(S k, T (k + 1))] := by
  unfold LL; rw [List.range_succ, List.map_append]; rfl
theorem LL_len (S T : Nat → Nat) (k : Nat) : (LL S T k).length = k := by unfold LL; simp
theorem txt_is (S T : Nat → Nat) (k : Nat) : txt S T (k + 1) = tx (T 0) ++ tail (LL S T k) := by
  induction k with
  | zero => show [] ++ [] ++ tx (T 0) = tx (T 0) ++ []; simp
  | succ k ih =>
    show txt S T (k + 1) ++ sepT S (k + 1) ++ tx (T (k + 1)) = _
    rw [ih, LL_succ, tail_snoc, show sepT S (k + 1) = sp (S k) from rfl]
    simp [List.append_assoc]
theorem ag_is (vk : Nat → Bool) (S T : Nat → Nat) (k : Nat) : ag vk S T (k + 1) = acc vk false (val vk (T 0)) (LL S T k) := by
  induction k with
  | zero => show (false, true && val vk (T 0)) = (false, val vk (T 0)); simp
  | succ k ih =>
    rw [LL_succ, acc_snoc]
    show ((midA S (k + 1) (ag vk S T (k + 1))).1, (midA S (k + 1) (ag vk S T (k + 1))).2 && val vk (T (k + 1))) = _
    rw [ih, show ∀ p, midA S (k + 1) p = if 2 ≤ S k % 4 then (p.1 || p.2, true) else p from fun p => rfl]
    split <;> simp
theorem txt_len (S T : Nat → Nat) (k : Nat) : (txt S T k).length ≤ 19 * k := by
  cases k with
  | zero => exact Nat.le_refl _
  | succ k =>
    rw [txt_is]
    have h1 := tx_len (T 0)
    have h2 := tail_len (LL S T k)
    rw [LL_len] at h2
    simp only [List.length_append]
    omega
end Pl
theorem Buf.cell {w0 : World} {v : Value} {l : List UInt8} {wr : World} (h : Buf w0 v l wr) {p : Addr} {x : Value} (hp : w0.cell? p = some x) : wr.cell? p = some x := by rw [h.below.cell (World.block_lt_of_cell? _ _ hp)]; exact hp
theorem buf_more {w0 : World} {v : Value} {l l' : List UInt8} {wr : World} (h : Buf w0 v l wr) (e : l = l') : Buf w0 v l' wr := e ▸ h
end Go.Proofs.YboneseleGreatFmt
