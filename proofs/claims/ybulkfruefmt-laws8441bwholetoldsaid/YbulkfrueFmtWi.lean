import Derived.Test.YbulkfrueFmtWh
namespace Go.Proofs.YbulkfrueFmt
open Go.RowKit
open Go.Deep (BT)

set_option maxRecDepth 100000 in
set_option maxHeartbeats 4000000 in
theorem rend_k3 (w : World) (b st ctx lo : Nat) (hst : st < 32) (l r : BT (Nat × Nat)) (b1 o1 b2 o2 : Nat) (hptr : BT.ptr l = .pointer (some ⟨b1, o1, none⟩)) (hptr2 : BT.ptr r = .pointer (some ⟨b2, o2, none⟩)) (hlen : (Pl.rend l 0).length ≤ 100000) (hlen2 : (Pl.rend r 0).length ≤ 100000) (hl : TreeAt lo w l) (hr : TreeAt lo w r) (hN : NB w b 3 st l.ptr r.ptr)
    (il : ∀ W, TreeAt lo W l → Calls Ybaf.prog 5 #[.pointer (some ⟨b1, o1, none⟩), .int .i64 0] W (RP (Pl.rend l 0) W)) (ir : ∀ W, TreeAt lo W r → Calls Ybaf.prog 5 #[.pointer (some ⟨b2, o2, none⟩), .int .i64 0] W (RP (Pl.rend r 0) W)) : Calls Ybaf.prog 5 #[.pointer (some ⟨b, 0, none⟩), .int .i64 (ctx : Int)] w (RP (Pl.rend (.node b 0 (3, st) l r) ctx) w) := by
  have c0 := hN.c0
  have c2 := hN.c2
  have c3 := hN.c3
  have c4 := hN.c4
  rw [hptr] at c3
  rw [hptr2] at c4
  have hb := b16 st hst
  have hb4 := b4 st hst
  have IL : Hid (∀ W, TreeAt lo W l → Calls Ybaf.prog 5 #[.pointer (some ⟨b1, o1, none⟩), .int .i64 0] W (RP (Pl.rend l 0) W)) := il
  have IR : Hid (∀ W, TreeAt lo W r → Calls Ybaf.prog 5 #[.pointer (some ⟨b2, o2, none⟩), .int .i64 0] W (RP (Pl.rend r 0) W)) := ir
  have HL : Hid (TreeAt lo w l) := hl
  have HTR : Hid (TreeAt lo w r) := hr
  have HR : Hid (Pl.rend (.node b 0 (3, st) l r) ctx = if (decide (1 ≤ ctx) || (st / 16 % 2 == 1)) then [40] ++ Pl.wsL (st / 4) ++ (Pl.rend l 0 ++ Pl.wsL st ++ Pl.sepO st ++ Pl.wsL (st / 2) ++ Pl.rend r 0) ++ Pl.wsL (st / 8) ++ [41] else Pl.rend l 0 ++ Pl.wsL st ++ Pl.sepO st ++ Pl.wsL (st / 2) ++ Pl.rend r 0) := by
    show _ = _
    rw [Pl.rend_node, Pl.body_3]
    have : Pl.wrapB 3 st ctx = (decide (1 ≤ ctx) || (st / 16 % 2 == 1)) := by simp [Pl.wrapB]
    rw [this]
  clear hN il ir hl hr hptr hptr2
  have s1 := ws_sz ((st : Int)).toNat
  have s2 := ws_sz ((st : Int) / 2).toNat
  have s4 := ws_sz ((st : Int) / 4).toNat
  have s8 := ws_sz ((st : Int) / 8).toNat
  have s1' := ws_sz st
  have s2' := ws_sz (st / 2)
  have s4' := ws_sz (st / 4)
  have s8' := ws_sz (st / 8)
  have sl : (mk (Pl.rend l 0)).size ≤ 100000 := hlen
  have sr : (mk (Pl.rend r 0)).size ≤ 100000 := hlen2
  clear hlen hlen2
  have ec : decide ((1 : Int) ≤ (ctx : Int)) = decide (1 ≤ ctx) := by rw [Bool.eq_iff_iff]; simp; try omega
  have HS : Hid (Pl.sepO st = if st / 4 % 2 = 1 then [124, 124] else [124]) := rfl
  have fs : mk (Pl.rend l 0) ++ mk (Pl.wsL st) ++ mk (Pl.sepO st) ++ mk (Pl.wsL (st / 2)) ++ mk (Pl.rend r 0) = mk (Pl.rend l 0 ++ Pl.wsL st ++ Pl.sepO st ++ Pl.wsL (st / 2) ++ Pl.rend r 0) := by simp only [mk_app]
  have FS : Hid (_ = _) := fs
  clear fs
  by_cases hsep : st / 4 % 2 = 1
  all_goals
    have HSEP : Hid (_) := hsep
    simp only [hsep, decide_true, decide_false] at hb4
    rw [HS.out] at FS
    first | rw [if_pos hsep] at FS | rw [if_neg hsep] at FS
    clear hsep
    cases hw : decide (1 ≤ ctx)
    · rw [hw] at ec HR
      clear hw
      cases h16 : (st / 16 % 2 == 1)
      · rw [h16] at hb HR
        clear h16
        go_enter Ybaf.func5, Ybaf.ntmps5
        go_wp2_with fail
        go_quiet (first | (go_at_call 6; exact (ws_int _ (by omega) (by omega) _).mono fun e w' ⟨he, hw⟩ => ⟨he, _, hw⟩) | (go_at_call_of 5 (Value.pointer (some (Addr.mk b1 o1 none))); exact Calls.quiet_of (IL.out _ (TreeAt.same l HL.out (fun _ _ _ => rfl)))) | (go_at_call_of 5 (Value.pointer (some (Addr.mk b2 o2 none))); exact Calls.quiet_of (IR.out _ (TreeAt.same r HTR.out (fun _ _ _ => rfl)))))
        go_wp2_with fail
        go_ret
        exact ⟨ret_str (by rw [HR.out, HS.out]; (first | rw [if_pos HSEP.out] | rw [if_neg HSEP.out]); exact FS.out), _, rfl⟩
      · rw [h16] at hb HR
        clear h16
        go_enter Ybaf.func5, Ybaf.ntmps5
        go_wp2_with fail
        go_quiet (first | (go_at_call 6; exact (ws_int _ (by omega) (by omega) _).mono fun e w' ⟨he, hw⟩ => ⟨he, _, hw⟩) | (go_at_call_of 5 (Value.pointer (some (Addr.mk b1 o1 none))); exact Calls.quiet_of (IL.out _ (TreeAt.same l HL.out (fun _ _ _ => rfl)))) | (go_at_call_of 5 (Value.pointer (some (Addr.mk b2 o2 none))); exact Calls.quiet_of (IR.out _ (TreeAt.same r HTR.out (fun _ _ _ => rfl)))))
        go_wp2_with fail
        go_quiet ((go_at_call 6; exact (ws_int _ (by omega) (by omega) _).mono fun e w' ⟨he, hw⟩ => ⟨he, _, hw⟩))
        go_wp2_with fail
        go_ret
        exact ⟨ret_str (by rw [HR.out, HS.out]; (first | rw [if_pos HSEP.out] | rw [if_neg HSEP.out]); exact fin_wrap _ _ st FS.out), dd _ _ _⟩
    · rw [hw] at ec HR
      clear hw
      go_enter Ybaf.func5, Ybaf.ntmps5
      go_wp2_with fail
      go_quiet (first | (go_at_call 6; exact (ws_int _ (by omega) (by omega) _).mono fun e w' ⟨he, hw⟩ => ⟨he, _, hw⟩) | (go_at_call_of 5 (Value.pointer (some (Addr.mk b1 o1 none))); exact Calls.quiet_of (IL.out _ (TreeAt.same l HL.out (fun _ _ _ => rfl)))) | (go_at_call_of 5 (Value.pointer (some (Addr.mk b2 o2 none))); exact Calls.quiet_of (IR.out _ (TreeAt.same r HTR.out (fun _ _ _ => rfl)))))
      go_wp2_with fail
      go_quiet ((go_at_call 6; exact (ws_int _ (by omega) (by omega) _).mono fun e w' ⟨he, hw⟩ => ⟨he, _, hw⟩))
      go_wp2_with fail
      go_ret
      exact ⟨ret_str (by rw [HR.out, HS.out]; (first | rw [if_pos HSEP.out] | rw [if_neg HSEP.out]); exact fin_wrap _ _ st FS.out), dd _ _ _⟩

end Go.Proofs.YbulkfrueFmt
