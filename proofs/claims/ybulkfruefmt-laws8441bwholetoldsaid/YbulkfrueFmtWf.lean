import Derived.Test.YbulkfrueFmtWe
/-
  WHAT A TREE's TEXT AND VALUE ARE: 'zzs8441beval', 'zzs8441brender'.
-/
namespace Go.Proofs.YbulkfrueFmt
open Go.RowKit
open Go.Deep (BT)

set_option maxRecDepth 100000 in
set_option maxHeartbeats 2000000 in
theorem eval_any (dv : Nat) (_hdv : dv < 256) (lo : Nat) (w : World) (t : BT (Nat × Nat)) : ∀ d, Pl.good d t → TreeAt lo w t →
    Calls Ybaf.prog 10 #[BT.ptr t, .int .u8 (dv : Int)] w fun e w' => e = .returned (.bool (Pl.ev (dfB dv) t)) ∧ w' = w := by
  induction t with
  | nil => intro d h; exact h.elim
  | node b o a l r ihl ihr =>
    obtain ⟨k, st⟩ := a
    rintro d ⟨hst, hk⟩ ⟨h1, rfl, hN, hl, hr⟩
    show Calls Ybaf.prog 10 #[.pointer (some ⟨b, 0, none⟩), .int .u8 (dv : Int)] w _
    have c0 := hN.c0
    have c1 := hN.c1
    have c3 := hN.c3
    have c4 := hN.c4
    rcases hk with rfl | ⟨hd, ⟨rfl, gl⟩ | ⟨hk, gl, gr⟩⟩
    · obtain ⟨nm, hnm⟩ : ∃ nm, nm = st % 4 := ⟨_, rfl⟩
      rw [← hnm] at c1
      have hn4 : nm < 4 := by omega
      have HE : Hid (Pl.ev (dfB dv) (.node b 0 (0, st) l r) = dfB dv nm) := by rw [hnm]; rfl
      clear hnm ihl ihr hN hl hr c3 c4
      go_enter Ybaf.func10, Ybaf.ntmps10
      go_wp2_with fail
      go_ret
      exact ⟨ret_bool (by rw [HE.out]; rfl), rfl⟩
    · have IL : Hid (Calls _ _ _ _ _) := ihl (d - 1) gl hl
      have HE : Hid (Pl.ev (dfB dv) (.node b 0 (1, st) l r) = !Pl.ev (dfB dv) l) := rfl
      obtain ⟨b1, o1, hptr⟩ := good_ptr gl
      rw [hptr] at c3 IL
      clear ihl ihr hN hl hr gl hptr c1 c4
      go_enter Ybaf.func10, Ybaf.ntmps10
      go_wp2_with fail
      refine IL.out.mono ?_
      rintro e w' ⟨rfl, rfl⟩
      go_wp2_with fail
      go_ret
      exact ⟨ret_bool HE.out.symm, rfl⟩
    · have IL : Hid (Calls _ _ _ _ _) := ihl (d - 1) gl hl
      have IR : Hid (Calls _ _ _ _ _) := ihr (d - 1) gr hr
      obtain ⟨b1, o1, hptr⟩ := good_ptr gl
      obtain ⟨b2, o2, hptr2⟩ := good_ptr gr
      rw [hptr] at c3 IL
      rw [hptr2] at c4 IR
      have HL : Hid (∃ x, Pl.ev (dfB dv) l = x) := ⟨_, rfl⟩
      obtain ⟨x, hx⟩ := HL.out
      obtain ⟨y, hy⟩ : ∃ y, Pl.ev (dfB dv) r = y := ⟨_, rfl⟩
      rw [hx] at IL
      rw [hy] at IR
      have HE : Hid (Pl.ev (dfB dv) (.node b 0 (k, st) l r) = if k = 2 then x && y else x || y) := by
        show _ = _
        rcases hk with rfl | rfl
        · show (Pl.ev (dfB dv) l && Pl.ev (dfB dv) r) = _; rw [hx, hy]; rfl
        · show (Pl.ev (dfB dv) l || Pl.ev (dfB dv) r) = _; rw [hx, hy]; rfl
      clear ihl ihr hN hl hr gl hptr c1 gr hptr2 hx hy HL
      rcases hk with rfl | rfl
      · cases x <;> cases y
        all_goals
          go_enter Ybaf.func10, Ybaf.ntmps10
          go_wp2_with fail
          refine IL.out.mono ?_
          rintro e w' ⟨rfl, rfl⟩
          go_wp2_with fail
          refine IR.out.mono ?_
          rintro e w' ⟨rfl, rfl⟩
          go_wp2_with fail
          go_ret
          exact ⟨ret_bool (by rw [HE.out]; rfl), rfl⟩
      · cases x <;> cases y
        all_goals
          go_enter Ybaf.func10, Ybaf.ntmps10
          go_wp2_with fail
          refine IL.out.mono ?_
          rintro e w' ⟨rfl, rfl⟩
          go_wp2_with fail
          refine IR.out.mono ?_
          rintro e w' ⟨rfl, rfl⟩
          go_wp2_with fail
          go_ret
          exact ⟨ret_bool (by rw [HE.out]; rfl), rfl⟩
end Go.Proofs.YbulkfrueFmt
