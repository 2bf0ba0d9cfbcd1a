import Derived.Test.YbulkfrueFmtW0
namespace Go.Proofs.YbulkfrueFmt
open Go.RowKit

theorem ret_str {a b : ByteArray} (h : a = b) : Ending.returned (.string a) = .returned (.string b) := by rw [h]
theorem ret_bool {a b : Bool} (h : a = b) : Ending.returned (.bool a) = .returned (.bool b) := by rw [h]
/-- a string out of its bytes -/
def mk (l : List UInt8) : ByteArray := ⟨l.toArray⟩

set_option maxHeartbeats 400000 in
theorem nm_any (i : Nat) (w : World) : Calls Ybaf.prog 9 #[.int .i64 (i : Int)] w fun e w' => e = .returned (.string (mk (Pl.nmL i))) ∧ w' = w := by
  by_cases h0 : i = 0
  · subst h0
    go_enter Ybaf.func9, Ybaf.ntmps9
    go_wp2
    go_ret
    exact ⟨rfl, rfl⟩
  by_cases h1 : i = 1
  · subst h1
    go_enter Ybaf.func9, Ybaf.ntmps9
    go_wp2
    go_ret
    exact ⟨rfl, rfl⟩
  by_cases h2 : i = 2
  · subst h2
    go_enter Ybaf.func9, Ybaf.ntmps9
    go_wp2
    go_ret
    exact ⟨rfl, rfl⟩
  · have e0 : ((i : Int) == 0) = false := beq_eq_false_iff_ne.2 (by omega)
    have e1 : ((i : Int) == 1) = false := beq_eq_false_iff_ne.2 (by omega)
    have e2 : ((i : Int) == 2) = false := beq_eq_false_iff_ne.2 (by omega)
    have H : Hid (Pl.nmL i = [100, 98]) := by unfold Pl.nmL; rw [if_neg h0, if_neg h1, if_neg h2]; rfl
    clear h0 h1 h2
    go_enter Ybaf.func9, Ybaf.ntmps9
    go_wp2
    go_ret
    exact ⟨ret_str (by rw [H.out]; rfl), rfl⟩

set_option maxHeartbeats 400000 in
theorem ws_any (i : Nat) (hi : i < 256) (w : World) : Calls Ybaf.prog 6 #[.int .u8 (i : Int)] w fun e w' => e = .returned (.string (mk (Pl.wsL i))) ∧ w' = w := by
  have hm : i % 4 < 4 := Nat.mod_lt _ (by decide)
  rcases (show i % 4 = 0 ∨ i % 4 = 1 ∨ i % 4 = 2 ∨ i % 4 = 3 by omega) with h | h | h | h
  all_goals
    have e1 : (((i : Int) % 4) == 1) = decide (i % 4 = 1) := by rw [Bool.eq_iff_iff]; simp; omega
    have e2 : (((i : Int) % 4) == 2) = decide (i % 4 = 2) := by rw [Bool.eq_iff_iff]; simp; omega
    have e3 : (((i : Int) % 4) == 3) = decide (i % 4 = 3) := by rw [Bool.eq_iff_iff]; simp; omega
    simp only [h] at e1 e2 e3
    have H : Hid (Pl.wsL i = if i % 4 = 1 then [32] else if i % 4 = 2 then [9] else if i % 4 = 3 then [32, 9] else []) := rfl
    have H2 : Hid (i % 4 = _) := h
    clear h hm
    go_enter Ybaf.func6, Ybaf.ntmps6
    go_wp2
    go_ret
    exact ⟨ret_str (by rw [H.out, H2.out]; rfl), rfl⟩

set_option maxHeartbeats 400000 in
theorem isn_any (c : UInt8) (w : World) : Calls Ybaf.prog 23 #[.int .u8 (c.toNat : Int)] w fun e w' => e = .returned (.bool (Pl.isNm c)) ∧ w' = w := by
  have hc := c.toNat_lt
  have H : Hid (Pl.isNm c = ((decide (97 ≤ (c.toNat : Int)) && decide ((c.toNat : Int) ≤ 122)) || (decide (65 ≤ (c.toNat : Int)) && decide ((c.toNat : Int) ≤ 90)) || (decide (48 ≤ (c.toNat : Int)) && decide ((c.toNat : Int) ≤ 57)) || ((c.toNat : Int) == 95))) := by
    unfold Pl.isNm Hid
    rw [Bool.eq_iff_iff]
    simp [UInt8.le_iff_toNat_le, ← UInt8.toNat_inj]
    omega
  go_enter Ybaf.func23, Ybaf.ntmps23
  go_wp2
  all_goals
    go_ret
    refine ⟨ret_bool ?_, rfl⟩
    rw [H.out]
    rw [Bool.eq_iff_iff]
    simp
    omega

end Go.Proofs.YbulkfrueFmt
