import Derived.Test.YboneseleGreatFmtWg2
import Derived.Deep.DeepCutAuto
import Derived.Lib.AppendStr
import Derived.Laws.BytesString
namespace Go.Proofs.YboneseleGreatFmt
open Go.RowKit Go.WideMaps Go.Maps Go.Extern.Stop Go.Stop Go.Extern

theorem bit1 (s : Nat) (h : s < 256) : (bits BinOp.and IntKind.u8 (s : Int) 1 != 0) = (s / 2 ^ 0 % 2 == 1) := by
  revert s; decide +kernel
theorem bit2 (s : Nat) (h : s < 256) : (bits BinOp.and IntKind.u8 (s : Int) 2 != 0) = (s / 2 ^ 1 % 2 == 1) := by
  revert s; decide +kernel
theorem bit4 (s : Nat) (h : s < 256) : (bits BinOp.and IntKind.u8 (s : Int) 4 != 0) = (s / 2 ^ 2 % 2 == 1) := by
  revert s; decide +kernel
theorem bit4e (s : Nat) (h : s < 256) : (bits BinOp.and IntKind.u8 (s : Int) 4 == 0) = !(s / 2 ^ 2 % 2 == 1) := by
  revert s; decide +kernel
theorem bit16 (s : Nat) (h : s < 256) : (bits BinOp.and IntKind.u8 (s : Int) 16 != 0) = decide (s / 16 % 2 = 1) := by
  revert s; decide +kernel
theorem bit32 (s : Nat) (h : s < 256) : (bits BinOp.and IntKind.u8 (s : Int) 32 != 0) = decide (s / 32 % 2 = 1) := by
  revert s; decide +kernel

/-- the two blanks around an operator, as written -/
def y16 (s : Nat) : List UInt8 := if s / 16 % 2 = 1 then [32] else []
def y32 (s : Nat) : List UInt8 := if s / 32 % 2 = 1 then [9] else []
theorem sp_y (s : Nat) : Pl.sp s = y16 s ++ (Pl.opC (s % 4) ++ y32 s) := rfl
theorem y16_len (s : Nat) : (y16 s).length ≤ 1 := by unfold y16; split <;> decide
theorem y32_len (s : Nat) : (y32 s).length ≤ 1 := by unfold y32; split <;> decide
theorem opC_len (s : Nat) : (Pl.opC s).length ≤ 2 := by unfold Pl.opC; (repeat' split) <;> decide
/-- what stands ahead of a term's name, as written -/
def yPre (t : Nat) : List UInt8 := if t / 15 % 2 = 1 then Pl.pre else []
theorem tx_y (t : Nat) : Pl.tx t = List.replicate (t / 5 % 3) 33 ++ (yPre t ++ Pl.nmC (t % 5)) := rfl
theorem yPre_len (t : Nat) : (yPre t).length ≤ 8 := by unfold yPre; split <;> decide
theorem nmC_len5 (t : Nat) : (Pl.nmC t).length ≤ 5 := by unfold Pl.nmC; (repeat' split) <;> decide

def LP (w : World) (e : Ending) (w' : World) : Prop := e = .returned (.bool true) ∧ Below w.heap.size w w'
end Go.Proofs.YboneseleGreatFmt
