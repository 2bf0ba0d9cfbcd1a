import Derived.Test.YboneseleGreatFmtW9
import Derived.Stop.CallBack
import Derived.Stop.IfaceNil
import GoSem.ClaimData
/-
  THE CLOSED FACTS ON fmt.Sprintf IN THIS DUMP (function 15: a plain stop), and the calls that fail.
-/
namespace Go.Proofs.YboneseleGreatFmt
open Go.RowKit Go.Extern.Stop Go.Stop Go.Extern

theorem Ybgs.call15 (args : Array Value) (w : World) : (callFunc 15 args).run Ybgs.prog w = ((FmtStop.sprintf #[9, 182] #[9] args).run Ybgs.prog w).andThen fun v w' => .ok (.value v) w' :=
  run_callFunc_extern Ybgs.func15 (by kernel_rfl) (by kernel_rfl) (by kernel_rfl) (by kernel_rfl) args w
theorem Ybgs.guard (name : String) (w : World) : (FmtStop.guard name).run Ybgs.prog w = .ok () w := by kernel_rfl
-- "unexpected %q", 1 operand
theorem Ybgs.fmt1 : FmtStop.printed? ⟨#[117, 110, 101, 120, 112, 101, 99, 116, 101, 100, 32, 37, 113]⟩ 1 = some [(0, 113, false)] := by kernel_rfl
theorem Ybgs.fmt1r (w : World) : (FmtDoors.printed ⟨#[117, 110, 101, 120, 112, 101, 99, 116, 101, 100, 32, 37, 113]⟩ 1).run Ybgs.prog w = .ok [(0, 113, false)] w := by kernel_rfl
def Ybgs.shape9 : List UInt8 := [12, 6, 0, 0, 0, 0, 0, 0, 0, 115, 116, 114, 105, 110, 103]
theorem Ybgs.op9_113 (name : String) (x : ByteArray) (w : World) : (FmtStop.operand name false 113 false (.iface 9 (.string x))).run Ybgs.prog w = .ok (Ybgs.shape9, FmtStop.pack x.data.toList) w := by kernel_rfl


set_option maxHeartbeats 400000 in
theorem fail_any (b : Nat) (s m : ByteArray) (i d : Nat) (w : World) (hb : PB w b s i d (.pointer none)) :
    Calls Ybgs.prog 14 #[.pointer (some ⟨b, 0, none⟩), .string m] w fun e w' => e = .returned (.tuple #[]) ∧ w' = (w.setCell ⟨b, 3, none⟩ (.pointer (some ⟨w.heap.size, 0, none⟩))).alloc (.cells #[.int .i64 (i : Int), .string m] 78) := by
  have c1 := hb.c1
  have c3 := hb.c3
  have f3 := hb.fz 3
  have hbs := hb.lt
  go_enter Ybgs.func14, Ybgs.ntmps14
  go_wp2
  go_end0
  exact ⟨rfl, rfl⟩

theorem alloc_at (W : World) (o : Obj) (k : Nat) (h : k = W.heap.size) : (W.alloc o).heap[k]? = some o := by
  subst h
  show (W.heap.push o)[W.heap.size]? = _
  simp
end Go.Proofs.YboneseleGreatFmt
