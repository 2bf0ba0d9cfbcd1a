import Derived.Test.YbulkfsekDoorVa
import Derived.Lib.ItoaLen
/-
  THE NAMES, AND THE LAW.
-/
namespace Go.Proofs.YbulkfsekDoor
open Go.RowKit

theorem dec_any (k : Int) (h0 : -9223372036854775808 ≤ k) (h1 : k ≤ 9223372036854775807) (w : World) : Calls Ybad.prog 6 #[.int .i64 k] w (fun e w' => e = .returned (.string ⟨(Lib.itoa k).toArray⟩) ∧ Below w.heap.size w w') := by
  by_cases hk : k < 0
  · obtain ⟨m, rfl⟩ : ∃ m : Nat, k = -(m : Int) := ⟨k.natAbs, by omega⟩
    exact dec_neg m (by omega) (by omega) w
  · obtain ⟨m, rfl⟩ : ∃ m : Nat, k = (m : Int) := ⟨k.toNat, by omega⟩
    exact dec_pos m (by omega) w

/-- the table that strconv reads is as the program's text lays it -/
def Tab (w : World) : Prop := Lib.TabIs Ybad.prog w (Rows.lawS8460AWholeRow.laid.getD 2 ("", .nil)).1 .u64 Lib.pow10Tab

theorem below_grow (w : World) (k : Nat) (os : Array Obj) : Below w.heap.size w (Sort.grow (w.drewN k) os) := by
  refine ⟨rfl, rfl, rfl, ?_, fun j hj => ?_⟩
  · simp [Sort.grow]
  · show (w.heap ++ os)[j]? = w.heap[j]?
    rw [Array.getElem?_append_left hj]

theorem itoa_any (j : Int) (h0 : -9223372036854775808 ≤ j) (h1 : j ≤ 9223372036854775807) (w : World) (ht : Tab w) : Calls Ybad.prog 15 #[.int .i64 j] w (fun e w' => e = .returned (.string ⟨(Lib.itoa j).toArray⟩) ∧ Below w.heap.size w w') := by
  have h : Calls Ybad.prog 15 #[.int .i64 j] w fun e w' => e = .returned (.string ⟨(Lib.itoa j).toArray⟩) ∧ ∃ k os, w' = Sort.grow (w.drewN k) os := Any.strconv_Itoa Ybad.lays171 j h0 h1 w ht
  refine h.mono ?_
  rintro e w' ⟨rfl, k, os, rfl⟩
  exact ⟨rfl, below_grow w k os⟩

def nameOf (j : Int) : ByteArray := (⟨#[80]⟩ : ByteArray) ++ (⟨(Lib.itoa j).toArray⟩ : ByteArray)
theorem len_le (j : Int) (h0 : -9223372036854775808 ≤ j) (h1 : j ≤ 9223372036854775807) : ¬ 9223372036854775807 < 1 + (Lib.itoa j).length := by
  have := Lib.itoa_length_le j h0 h1
  omega

set_option maxRecDepth 100000 in
set_option maxHeartbeats 1000000 in
theorem proc_any (i j : Int) (h0 : -9223372036854775808 ≤ j) (h1 : j ≤ 9223372036854775807) (hw : IntKind.wrap .i64 (i + 1) = j) (w : World) (ht : Tab w) : Calls Ybad.prog 13 #[.int .i64 i] w (fun e w' => e = .returned (.string (nameOf j)) ∧ Below w.heap.size w w') := by
  have hl := len_le j h0 h1
  go_enter Ybad.func13, Ybad.ntmps13
  go_wp2_with fail
  refine (itoa_any j h0 h1 _ ht).mono ?_
  rintro e w' ⟨rfl, hb⟩
  go_wp2_with fail
  go_ret
  exact ⟨rfl, hb⟩
set_option maxRecDepth 100000 in
set_option maxHeartbeats 1000000 in
theorem node_same (i : Int) (w : World) : Calls Ybad.prog 5 #[.int .i64 i, .int .i64 i] w (fun e w' => e = .returned (.string ⟨#[67]⟩) ∧ w' = w) := by
  have hb : (i == i) = true := by simp
  go_enter Ybad.func5, Ybad.ntmps5
  go_wp2_with fail
  go_ret
  exact ⟨rfl, rfl⟩
set_option maxRecDepth 100000 in
set_option maxHeartbeats 1000000 in
theorem node_other (i n j : Int) (hne : i ≠ n) (w : World) (hp : Calls Ybad.prog 13 #[.int .i64 i] w (fun e w' => e = .returned (.string (nameOf j)) ∧ Below w.heap.size w w')) : Calls Ybad.prog 5 #[.int .i64 i, .int .i64 n] w (fun e w' => e = .returned (.string (nameOf j)) ∧ Below w.heap.size w w') := by
  have hb : (i == n) = false := by simp [hne]
  go_enter Ybad.func5, Ybad.ntmps5
  go_wp2_with fail
  refine hp.mono ?_
  rintro e w' ⟨rfl, hbb⟩
  go_wp2_with fail
  go_ret
  exact ⟨rfl, hbb⟩

set_option maxRecDepth 100000 in
set_option maxHeartbeats 1000000 in
theorem law_same (i : Int) (w : World) : Calls Ybad.prog 3 #[.int .i64 i, .int .i64 i] w (fun e w' => e = .returned (.bool true) ∧ Below w.heap.size w w') := by
  have hb : (i == i) = true := by simp
  go_enter Ybad.func3, Ybad.ntmps3
  go_wp2_with fail
  refine (node_same i w).mono ?_
  rintro e w' ⟨rfl, rfl⟩
  go_wp2_with fail
  go_ret
  exact ⟨rfl, Below.refl _ _⟩
set_option maxRecDepth 100000 in
set_option maxHeartbeats 1000000 in
theorem law_other (i n j : Int) (h0 : -9223372036854775808 ≤ j) (h1 : j ≤ 9223372036854775807) (hw : IntKind.wrap .i64 (i + 1) = j) (hne : i ≠ n) (w : World) (ht : Tab w) : Calls Ybad.prog 3 #[.int .i64 i, .int .i64 n] w (fun e w' => e = .returned (.bool true) ∧ Below w.heap.size w w') := by
  have hb : (i == n) = false := by simp [hne]
  have hl := len_le j h0 h1
  go_enter Ybad.func3, Ybad.ntmps3
  go_wp2_with fail
  refine (node_other i n j hne w (proc_any i j h0 h1 hw w ht)).mono ?_
  rintro e w1 ⟨rfl, hb1⟩
  have HB1 : Hid (Below w.heap.size w w1) := hb1
  clear hb1
  go_wp2_with fail
  refine (dec_any j h0 h1 w1).mono ?_
  rintro e w2 ⟨rfl, hb2⟩
  have HB2 : Hid (Below w1.heap.size w1 w2) := hb2
  clear hb2
  go_wp2_with fail
  go_ret
  refine ⟨?_, HB1.out.trans (HB2.out.mono HB1.out.size)⟩
  show Ending.returned (.bool _) = _
  simp [nameOf]

theorem wrap_in (x : Int) : -9223372036854775808 ≤ IntKind.wrap .i64 x ∧ IntKind.wrap .i64 x ≤ 9223372036854775807 := by
  simp only [IntKind.wrap, IntKind.signed, IntKind.bits]
  simp
  split <;> omega
theorem law_a (i n : Int) (w : World) (ht : Tab w) : Calls Ybad.prog 3 #[.int .i64 i, .int .i64 n] w (fun e w' => e = .returned (.bool true) ∧ Below w.heap.size w w') := by
  by_cases hne : i = n
  · subst hne; exact law_same i w
  · exact law_other i n _ (wrap_in (i + 1)).1 (wrap_in (i + 1)).2 rfl hne w ht
end Go.Proofs.YbulkfsekDoor
