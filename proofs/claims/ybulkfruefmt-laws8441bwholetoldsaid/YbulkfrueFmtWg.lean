import Derived.Test.YbulkfrueFmtWf
namespace Go.Proofs.YbulkfrueFmt
open Go.RowKit
open Go.Deep (BT)

theorem mk_app (a b : List UInt8) : mk a ++ mk b = mk (a ++ b) := by
  apply mk_of; simp [mk]

theorem ws_int (x : Int) (h0 : 0 ≤ x) (h1 : x < 256) (w : World) : Calls Ybaf.prog 6 #[.int .u8 x] w fun e w' => e = .returned (.string (mk (Pl.wsL x.toNat))) ∧ w' = w := by
  obtain ⟨n, rfl⟩ := Int.eq_ofNat_of_zero_le h0
  exact ws_any n (by omega) w
theorem ws_sz (i : Nat) : (mk (Pl.wsL i)).size ≤ 2 := Pl.len_ws i

/-- what the text of a tree leaves: some draws -/
def RP (x : List UInt8) (w : World) (e : Ending) (w' : World) : Prop := e = .returned (.string (mk x)) ∧ ∃ n, w' = w.drewN n

theorem dd (w : World) (a b : Nat) : ∃ n, (w.drewN a).drewN b = w.drewN n := ⟨a + b, by rw [World.drewN_drewN]⟩
theorem b16 (st : Nat) (h : st < 32) : (bits BinOp.and IntKind.u8 (st : Int) 16 != 0) = (st / 16 % 2 == 1) := by
  revert st; decide
theorem b4 (st : Nat) (h : st < 32) : (bits BinOp.and IntKind.u8 (st : Int) 4 != 0) = decide (st / 4 % 2 = 1) := by
  revert st; decide

theorem fin_wrap (x : ByteArray) (s : List UInt8) (st : Nat) (hx : x = mk s) : (⟨#[40]⟩ : ByteArray) ++ mk (Pl.wsL (st / 4)) ++ x ++ mk (Pl.wsL (st / 8)) ++ ⟨#[41]⟩ = mk ([40] ++ Pl.wsL (st / 4) ++ s ++ Pl.wsL (st / 8) ++ [41]) := by
  rw [show (⟨#[40]⟩ : ByteArray) = mk [40] from rfl, show (⟨#[41]⟩ : ByteArray) = mk [41] from rfl, hx]
  simp only [mk_app]

set_option maxRecDepth 100000 in
set_option maxHeartbeats 2000000 in
theorem rend_k0 (w : World) (b st ctx : Nat) (hst : st < 32) (l r : BT (Nat × Nat)) (hN : NB w b 0 st l.ptr r.ptr) : Calls Ybaf.prog 5 #[.pointer (some ⟨b, 0, none⟩), .int .i64 (ctx : Int)] w (RP (Pl.rend (.node b 0 (0, st) l r) ctx) w) := by
  have c0 := hN.c0
  have c1 := hN.c1
  have c2 := hN.c2
  have hb := b16 st hst
  have HR : Hid (Pl.rend (.node b 0 (0, st) l r) ctx = if (st / 16 % 2 == 1) then [40] ++ Pl.wsL (st / 4) ++ Pl.nmL (st % 4) ++ Pl.wsL (st / 8) ++ [41] else Pl.nmL (st % 4)) := by
    show _ = _
    rw [Pl.rend_node, Pl.body_0]; rfl
  obtain ⟨nm, hnm⟩ : ∃ nm, nm = st % 4 := ⟨_, rfl⟩
  rw [← hnm] at c1 HR
  clear hnm hN
  have s4 := ws_sz ((st : Int) / 4).toNat
  have s8 := ws_sz ((st : Int) / 8).toNat
  have s4' := ws_sz (st / 4)
  have s8' := ws_sz (st / 8)
  have sn : (mk (Pl.nmL nm)).size ≤ 5 := Pl.len_nm _
  cases h16 : (st / 16 % 2 == 1)
  · rw [h16] at hb HR
    clear h16
    go_enter Ybaf.func5, Ybaf.ntmps5
    go_wp2_with fail
    refine (nm_any nm _).mono ?_
    rintro e w' ⟨rfl, rfl⟩
    go_wp2_with fail
    go_ret
    exact ⟨ret_str (by rw [HR.out]; rfl), 0, rfl⟩
  · rw [h16] at hb HR
    clear h16
    go_enter Ybaf.func5, Ybaf.ntmps5
    go_wp2_with fail
    refine (nm_any nm _).mono ?_
    rintro e w' ⟨rfl, rfl⟩
    go_wp2_with fail
    go_quiet ((go_at_call 6; exact (ws_int _ (by omega) (by omega) _).mono fun e w' ⟨he, hw⟩ => ⟨he, _, hw⟩))
    go_wp2_with fail
    go_ret
    exact ⟨ret_str (by rw [HR.out]; exact fin_wrap _ _ st rfl), _, rfl⟩

set_option maxRecDepth 100000 in
set_option maxHeartbeats 2000000 in
theorem rend_k1 (w : World) (b st ctx lo : Nat) (hst : st < 32) (l r : BT (Nat × Nat)) (b1 o1 : Nat) (hptr : BT.ptr l = .pointer (some ⟨b1, o1, none⟩)) (hlen : (Pl.rend l 2).length ≤ 100000) (hl : TreeAt lo w l) (hN : NB w b 1 st l.ptr r.ptr)
    (ih : ∀ W, TreeAt lo W l → Calls Ybaf.prog 5 #[.pointer (some ⟨b1, o1, none⟩), .int .i64 2] W (RP (Pl.rend l 2) W)) : Calls Ybaf.prog 5 #[.pointer (some ⟨b, 0, none⟩), .int .i64 (ctx : Int)] w (RP (Pl.rend (.node b 0 (1, st) l r) ctx) w) := by
  have c0 := hN.c0
  have c2 := hN.c2
  have c3 := hN.c3
  rw [hptr] at c3
  have hb := b16 st hst
  have HR : Hid (Pl.rend (.node b 0 (1, st) l r) ctx = if (st / 16 % 2 == 1) then [40] ++ Pl.wsL (st / 4) ++ ([33] ++ Pl.wsL st ++ Pl.rend l 2) ++ Pl.wsL (st / 8) ++ [41] else [33] ++ Pl.wsL st ++ Pl.rend l 2) := by
    show _ = _
    rw [Pl.rend_node, Pl.body_1]; rfl
  have IH : Hid (∀ W, TreeAt lo W l → Calls Ybaf.prog 5 #[.pointer (some ⟨b1, o1, none⟩), .int .i64 2] W (RP (Pl.rend l 2) W)) := ih
  have HL : Hid (TreeAt lo w l) := hl
  clear hN ih hl hptr
  have s1 := ws_sz ((st : Int)).toNat
  have s4 := ws_sz ((st : Int) / 4).toNat
  have s8 := ws_sz ((st : Int) / 8).toNat
  have s1' := ws_sz st
  have s4' := ws_sz (st / 4)
  have s8' := ws_sz (st / 8)
  have sl : (mk (Pl.rend l 2)).size ≤ 100000 := hlen
  clear hlen
  have fs : (⟨#[33]⟩ : ByteArray) ++ mk (Pl.wsL st) ++ mk (Pl.rend l 2) = mk ([33] ++ Pl.wsL st ++ Pl.rend l 2) := by
    rw [show (⟨#[33]⟩ : ByteArray) = mk [33] from rfl]; simp only [mk_app]
  have FS : Hid (_ = _) := fs
  clear fs
  cases h16 : (st / 16 % 2 == 1)
  · rw [h16] at hb HR
    clear h16
    go_enter Ybaf.func5, Ybaf.ntmps5
    go_wp2_with fail
    go_quiet (first | (go_at_call 6; exact (ws_int _ (by omega) (by omega) _).mono fun e w' ⟨he, hw⟩ => ⟨he, _, hw⟩) | (go_at_call 5; exact Calls.quiet_of (IH.out _ (TreeAt.same l HL.out (fun _ _ _ => rfl)))))
    go_wp2_with fail
    go_ret
    exact ⟨ret_str (by rw [HR.out]; exact FS.out), _, rfl⟩
  · rw [h16] at hb HR
    clear h16
    go_enter Ybaf.func5, Ybaf.ntmps5
    go_wp2_with fail
    go_quiet (first | (go_at_call 6; exact (ws_int _ (by omega) (by omega) _).mono fun e w' ⟨he, hw⟩ => ⟨he, _, hw⟩) | (go_at_call 5; exact Calls.quiet_of (IH.out _ (TreeAt.same l HL.out (fun _ _ _ => rfl)))))
    go_wp2_with fail
    go_quiet ((go_at_call 6; exact (ws_int _ (by omega) (by omega) _).mono fun e w' ⟨he, hw⟩ => ⟨he, _, hw⟩))
    go_wp2_with fail
    go_ret
    exact ⟨ret_str (by rw [HR.out]; exact fin_wrap _ _ st FS.out), dd _ _ _⟩
end Go.Proofs.YbulkfrueFmt
