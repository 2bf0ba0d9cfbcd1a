import Derived.Test.YbulkfrvgWd
import Derived.LaidEql
/-
  COMPARISONS: two pointers that are one; nil with nil.
-/
namespace Go.Proofs.Ybulkfrvg
open Go.RowKit
theorem nil_eq (w : World) : (Op.equalIn 9998 25 (.pointer none) (.pointer none)).run Yba.prog w = .ok true w := by kernel_rfl
theorem ptr_eqIn (d : Nat) (a : Addr) (w : World) : (Op.equalIn (d + 1) 46 (.pointer (some a)) (.pointer (some a))).run Yba.prog w = .ok true w := by
  simp [Op.equalIn, run_underlying Yba.underlying46, run_sameAddr_same]
theorem ptr_ne (a : Addr) (w : World) : (binOp BinOp.neq 46 (.pointer (some a)) (.pointer (some a))).run Yba.prog w = .ok (.bool false) w := by
  have := ptr_eqIn 9999 a w
  simp only [binOp, Op.equal, Sem.run_bind]
  rw [show Op.maxDepth = 9999 + 1 from rfl, this]
  simp
end Go.Proofs.Ybulkfrvg
