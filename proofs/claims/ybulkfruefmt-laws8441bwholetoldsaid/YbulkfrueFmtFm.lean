import Derived.Test.YbulkfrueFmtW9
import Derived.Stop.CallBack
import Derived.Stop.IfaceNil
import GoSem.ClaimData
/-
  THE CLOSED FACTS ON fmt.Sprintf IN THIS DUMP (function 15: a plain stop), and the calls that fail.
-/
namespace Go.Proofs.YbulkfrueFmt
open Go.RowKit Go.Extern.Stop Go.Stop Go.Extern

theorem Ybaf.call15 (args : Array Value) (w : World) : (callFunc 15 args).run Ybaf.prog w = ((FmtStop.sprintf #[9, 81] #[9] args).run Ybaf.prog w).andThen fun v w' => .ok (.value v) w' :=
  run_callFunc_extern Ybaf.func15 (by kernel_rfl) (by kernel_rfl) (by kernel_rfl) (by kernel_rfl) args w
theorem Ybaf.guard (name : String) (w : World) : (FmtStop.guard name).run Ybaf.prog w = .ok () w := by kernel_rfl
-- "unexpected %q", 1 operand
theorem Ybaf.fmt1 : FmtStop.printed? ⟨#[117, 110, 101, 120, 112, 101, 99, 116, 101, 100, 32, 37, 113]⟩ 1 = some [(0, 113, false)] := by kernel_rfl
theorem Ybaf.fmt1r (w : World) : (FmtDoors.printed ⟨#[117, 110, 101, 120, 112, 101, 99, 116, 101, 100, 32, 37, 113]⟩ 1).run Ybaf.prog w = .ok [(0, 113, false)] w := by kernel_rfl
-- "expected \")\", found %s"
theorem Ybaf.fmt2 : FmtStop.printed? ⟨#[101, 120, 112, 101, 99, 116, 101, 100, 32, 34, 41, 34, 44, 32, 102, 111, 117, 110, 100, 32, 37, 115]⟩ 1 = some [(0, 115, false)] := by kernel_rfl
theorem Ybaf.fmt2r (w : World) : (FmtDoors.printed ⟨#[101, 120, 112, 101, 99, 116, 101, 100, 32, 34, 41, 34, 44, 32, 102, 111, 117, 110, 100, 32, 37, 115]⟩ 1).run Ybaf.prog w = .ok [(0, 115, false)] w := by kernel_rfl
def Ybaf.shape9 : List UInt8 := [12, 6, 0, 0, 0, 0, 0, 0, 0, 115, 116, 114, 105, 110, 103]
theorem Ybaf.op9_115 (name : String) (x : ByteArray) (w : World) : (FmtStop.operand name false 115 false (.iface 9 (.string x))).run Ybaf.prog w = .ok (Ybaf.shape9, FmtStop.pack x.data.toList) w := by kernel_rfl
theorem Ybaf.op9_113 (name : String) (x : ByteArray) (w : World) : (FmtStop.operand name false 113 false (.iface 9 (.string x))).run Ybaf.prog w = .ok (Ybaf.shape9, FmtStop.pack x.data.toList) w := by kernel_rfl

attribute [local go_sem] Ybaf.call15 Ybaf.guard Ybaf.fmt1 Ybaf.fmt1r Ybaf.fmt2 Ybaf.fmt2r Ybaf.op9_115 Ybaf.op9_113

set_option maxHeartbeats 400000 in
theorem fail_any (b : Nat) (s m : ByteArray) (i d : Nat) (w : World) (hb : PB w b s i d (.pointer none)) :
    Calls Ybaf.prog 14 #[.pointer (some ⟨b, 0, none⟩), .string m] w fun e w' => e = .returned (.tuple #[]) ∧ w' = (w.setCell ⟨b, 3, none⟩ (.pointer (some ⟨w.heap.size, 0, none⟩))).alloc (.cells #[.int .i64 (i : Int), .string m] 38) := by
  have c1 := hb.c1
  have c3 := hb.c3
  have f3 := hb.fz 3
  have hbs := hb.lt
  go_enter Ybaf.func14, Ybaf.ntmps14
  go_wp2
  go_end0
  exact ⟨rfl, rfl⟩

set_option maxHeartbeats 400000 in
theorem desc_end (w : World) : Calls Ybaf.prog 21 #[.string ⟨#[]⟩] w fun e w' => e = .returned (.string ⟨#[116, 104, 101, 32, 101, 110, 100, 32, 111, 102, 32, 116, 104, 101, 32, 101, 120, 112, 114, 101, 115, 115, 105, 111, 110]⟩) ∧ w' = w := by
  go_enter Ybaf.func21, Ybaf.ntmps21
  go_wp2
  go_ret
  exact ⟨rfl, rfl⟩
end Go.Proofs.YbulkfrueFmt
