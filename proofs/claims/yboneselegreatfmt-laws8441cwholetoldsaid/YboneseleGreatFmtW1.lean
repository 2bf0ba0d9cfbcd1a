import Derived.Test.YboneseleGreatFmtW0
namespace Go.Proofs.YboneseleGreatFmt
open Go.RowKit

theorem ret_str {a b : ByteArray} (h : a = b) : Ending.returned (.string a) = .returned (.string b) := by rw [h]
theorem ret_bool {a b : Bool} (h : a = b) : Ending.returned (.bool a) = .returned (.bool b) := by rw [h]
/-- a string out of its bytes -/
def mk (l : List UInt8) : ByteArray := ⟨l.toArray⟩

set_option maxHeartbeats 400000 in
theorem isn_any (c : UInt8) (w : World) : Calls Ybgs.prog 24 #[.int .u8 (c.toNat : Int)] w fun e w' => e = .returned (.bool (Pl.isNm c)) ∧ w' = w := by
  have hc := c.toNat_lt
  have H : Hid (Pl.isNm c = ((decide (97 ≤ (c.toNat : Int)) && decide ((c.toNat : Int) ≤ 122)) || (decide (65 ≤ (c.toNat : Int)) && decide ((c.toNat : Int) ≤ 90)) || (decide (48 ≤ (c.toNat : Int)) && decide ((c.toNat : Int) ≤ 57)) || ((c.toNat : Int) == 95))) := by
    unfold Pl.isNm Hid
    rw [Bool.eq_iff_iff]
    simp [UInt8.le_iff_toNat_le, ← UInt8.toNat_inj]
    omega
  go_enter Ybgs.func24, Ybgs.ntmps24
  go_wp2
  all_goals
    go_ret
    refine ⟨ret_bool ?_, rfl⟩
    rw [H.out]
    rw [Bool.eq_iff_iff]
    simp
    omega

end Go.Proofs.YboneseleGreatFmt
