import Derived.Test.YbulkfsekDoorRows
/-
  THE PLAIN LAW OF THE CLOCKS: forward with two tables, backward by scans: the same numbers.
-/
namespace Go.Proofs.YbulkfsekDoor
namespace Pl

def loS : ByteArray := ⟨#[108, 111, 99, 97, 108]⟩
def seS : ByteArray := ⟨#[115, 101, 110, 100]⟩
def reS : ByteArray := ⟨#[114, 101, 99, 101, 105, 118, 101]⟩
def otS : ByteArray := ⟨#[111, 116, 104, 101, 114]⟩
def prS (p : Nat) : ByteArray := if p % 3 = 0 then ⟨#[112]⟩ else if p % 3 = 1 then ⟨#[113]⟩ else ⟨#[]⟩
def kdS (k : Nat) : ByteArray := if k % 4 = 0 then loS else if k % 4 = 1 then seS else if k % 4 = 2 then reS else otS
def msS (m : Nat) : ByteArray := if m % 3 = 0 then ⟨#[109]⟩ else if m % 3 = 1 then ⟨#[110]⟩ else ⟨#[]⟩

def upd (f : ByteArray → Nat) (x : ByteArray) (c : Nat) : ByteArray → Nat := fun y => if y = x then c else f y

/-- the clock of an event out of the two tables -/
def clk (s : (ByteArray → Nat) × (ByteArray → Nat)) (p k m : ByteArray) : Nat := max (s.1 p) (if k = reS then s.2 m else 0) + 1

/-- the two tables ahead of event i -/
def stp (ep ek em : Nat → ByteArray) : Nat → (ByteArray → Nat) × (ByteArray → Nat)
  | 0 => (fun _ => 0, fun _ => 0)
  | i + 1 => (upd (stp ep ek em i).1 (ep i) (clk (stp ep ek em i) (ep i) (ek i) (em i)), if ek i = seS then upd (stp ep ek em i).2 (em i) (clk (stp ep ek em i) (ep i) (ek i) (em i)) else (stp ep ek em i).2)
def ck (ep ek em : Nat → ByteArray) (i : Nat) : Nat := clk (stp ep ek em i) (ep i) (ek i) (em i)

/-- the clock of the last place below i that fits -/
def back (c : Nat → Nat) (f : Nat → Bool) : Nat → Nat
  | 0 => 0
  | i + 1 => if f i then c i else back c f i

section
variable (ep ek em : Nat → ByteArray)

theorem cur_back (x : ByteArray) : ∀ i, (stp ep ek em i).1 x = back (ck ep ek em) (fun j => decide (ep j = x)) i
  | 0 => rfl
  | i + 1 => by
    simp only [stp, back, upd]
    by_cases h : x = ep i
    · subst h; simp [ck]
    · rw [if_neg h, if_neg (by simpa using fun e => h e.symm)]
      exact cur_back x i
theorem car_back (x : ByteArray) : ∀ i, (stp ep ek em i).2 x = back (ck ep ek em) (fun j => decide (ek j = seS) && decide (em j = x)) i
  | 0 => rfl
  | i + 1 => by
    simp only [stp, back]
    by_cases hs : ek i = seS
    · rw [if_pos hs]
      unfold upd
      by_cases h : x = em i
      · subst h; simp [ck, hs]
      · rw [if_neg h, if_neg (by simpa [hs] using fun e => h e.symm)]
        exact car_back x i
    · rw [if_neg hs, if_neg (by simp [hs])]
      exact car_back x i

theorem stp_le : ∀ i x, (stp ep ek em i).1 x ≤ i ∧ (stp ep ek em i).2 x ≤ i
  | 0, _ => ⟨Nat.le_refl _, Nat.le_refl _⟩
  | i + 1, x => by
    have hc : clk (stp ep ek em i) (ep i) (ek i) (em i) ≤ i + 1 := by
      unfold clk
      have h1 := (stp_le i (ep i)).1
      have h2 := (stp_le i (em i)).2
      split <;> omega
    have h1 := (stp_le i x).1
    have h2 := (stp_le i x).2
    simp only [stp]
    constructor
    · unfold upd; split <;> omega
    · split
      · unfold upd; split <;> omega
      · omega
theorem ck_le (i : Nat) : ck ep ek em i ≤ i + 1 := by
  unfold ck clk
  have h1 := (stp_le ep ek em i (ep i)).1
  have h2 := (stp_le ep ek em i (em i)).2
  split <;> omega
/-- the law's own count -/
theorem ck_back (i : Nat) : ck ep ek em i = max (back (ck ep ek em) (fun j => decide (ep j = ep i)) i) (if ek i = reS then back (ck ep ek em) (fun j => decide (ek j = seS) && decide (em j = em i)) i else 0) + 1 := by
  rw [← cur_back, ← car_back]; rfl
end
end Pl
end Go.Proofs.YbulkfsekDoor
