import Derived.Test.YbulkfrueFmtFm
import Derived.Deep.RegionHeld3
namespace Go.Proofs.YbulkfrueFmt
open Go.RowKit Go.Extern.Stop Go.Stop Go.Extern
attribute [local go_sem] Ybaf.call15 Ybaf.guard Ybaf.fmt1 Ybaf.fmt1r Ybaf.fmt2 Ybaf.fmt2r Ybaf.op9_115 Ybaf.op9_113

/-- what a method of the parser leaves where it fails at the text's end -/
def Bad (b : Nat) (s : ByteArray) (d : Nat) (w : World) (e : Ending) (w' : World) : Prop :=
  ∃ eb m, e = .returned .nilIface ∧ Keep b w w' ∧ PB w' b s s.size d (.pointer (some ⟨eb, 0, none⟩)) ∧ w.heap.size ≤ eb ∧ w'.heap[eb]? = some (.cells #[.int .i64 (s.size : Int), .string m] 38)

theorem bad_close {b : Nat} {s : ByteArray} {d eb : Nat} {m : ByteArray} {w W : World} (hbs : b < w.heap.size) (hk : Keep b w W) (hp : PB W b s s.size (d + 1) (.pointer (some ⟨eb, 0, none⟩))) (he : w.heap.size ≤ eb)
    (hc : W.heap[eb]? = some (.cells #[.int .i64 (s.size : Int), .string m] 38)) : Bad b s d w (.returned .nilIface) (W.setCell ⟨b, 2, none⟩ (.int .i64 (d : Int))) :=
  ⟨eb, m, rfl, hk.setCell _ _, hp.set2 _ _ rfl, he, by rw [Below.heap_setCell _ _ _ _ (by show eb ≠ b; omega)]; exact hc⟩
theorem alloc_at (W : World) (o : Obj) (k : Nat) (h : k = W.heap.size) : (W.alloc o).heap[k]? = some o := by
  subst h
  show (W.heap.push o)[W.heap.size]? = _
  simp
theorem kq1 {W : World} {a : Addr} {v : Value} (o : Obj) (h : W.cell? a = some v) : (W.alloc o).cell? a = some v := by
  rw [World.cell?_alloc_lt _ _ _ (World.block_lt_of_cell? _ _ h)]; exact h
theorem kq2 {W : World} {q b : Nat} {v p : Value} (h : W.cell? ⟨q, 0, none⟩ = some p) (_hne : b ≠ q) : (W.setCell ⟨b, 3, none⟩ v).cell? ⟨q, 0, none⟩ = some p := by
  rw [World.cell?_setCell_other _ _ _ _ (by intro h; injection h; omega)]; exact h

set_option maxRecDepth 100000 in
set_option maxHeartbeats 1000000 in
theorem not_bad (dv N f : Nat) (hO : OrC dv N f) (F : Interp) (w : World) (hF : F.answers w.tape) (b : Nat) (s : ByteArray) (i d : Nat) (bv : Bool) (hb : PB w b s i d (.pointer none)) (hi : i ≤ s.size) (hs : s.size ≤ 1073741824) (hd : d + (f + 1) ≤ 1000)
    (h40 : Pl.headIs 40 (Pl.skip (rst s i)) = true) (hA : Pl.orL (Pl.andL (Pl.notF (Pl.Dn (dfB dv)) N f) N true) N false (Pl.skip (rst s i)).tail = some (bv, [])) :
    Calls Ybaf.prog 18 #[.pointer (some ⟨b, 0, none⟩)] w (Bad b s d w) := by
  have HO : Hid (OrC dv N f) := hO
  have HA : Hid (Pl.orL (Pl.andL (Pl.notF (Pl.Dn (dfB dv)) N f) N true) N false (Pl.skip (rst s i)).tail = some (bv, [])) := hA
  have H40 : Hid (Pl.headIs 40 (Pl.skip (rst s i)) = true) := h40
  have HFF : Hid (F.answers w.tape) := hF
  clear hF
  have hbs := hb.lt
  have c2 := hb.c2
  have f2 := hb.fz 2
  have HB : Hid (PB w b s i d (.pointer none)) := hb
  clear hO hA h40 hb
  have hmf : ∀ (fn : Fn) (first cap : Array Value) (w : World), (Instr.makeFunc fn first cap).run Ybaf.prog w = .ok (.func fn first cap) w := fun _ _ _ _ => rfl
  go_enter_defers Ybaf.func18, Ybaf.ntmps18
  have hdd : decide ((1000 : Int) < (d : Int) + 1) = false := by simp; omega
  go_wp2_with fail
  have P0 : Hid (PB ((w.setCell ⟨b, 2, none⟩ (.int .i64 ((d : Int) + 1))).alloc (.cells #[.pointer (some ⟨b, 0, none⟩)] 54)) b s i (d + 1) (.pointer none)) := (HB.out.set2 (d + 1) _ (by omega)).alloc _
  have K0 : Hid (Keep b w ((w.setCell ⟨b, 2, none⟩ (.int .i64 ((d : Int) + 1))).alloc (.cells #[.pointer (some ⟨b, 0, none⟩)] 54))) := ((Keep.refl _ _).setCell _ _).alloc _
  have Q0 : Hid (((w.setCell ⟨b, 2, none⟩ (.int .i64 ((d : Int) + 1))).alloc (.cells #[.pointer (some ⟨b, 0, none⟩)] 54)).cell? ⟨w.heap.size, 0, none⟩ = some (.pointer (some ⟨b, 0, none⟩))) := by
    have := World.cell?_alloc_new (w.setCell ⟨b, 2, none⟩ (.int .i64 ((d : Int) + 1))) #[.pointer (some ⟨b, 0, none⟩)] 54 0
    rw [World.size_setCell] at this
    exact this
  have S0 : Hid (((w.setCell ⟨b, 2, none⟩ (.int .i64 ((d : Int) + 1))).alloc (.cells #[.pointer (some ⟨b, 0, none⟩)] 54)).heap.size = w.heap.size + 1) := by show _ = _; simp
  clear c2 f2
  generalize (w.setCell ⟨b, 2, none⟩ (.int .i64 ((d : Int) + 1))).alloc (.cells #[.pointer (some ⟨b, 0, none⟩)] 54) = w0 at P0 K0 Q0 S0 ⊢
  refine (peek_any w0 b s i (d + 1) _ P0.out hi (by unfold maxLen; omega)).mono ?_
  rintro e w1 ⟨rfl, hk1, j1, hj1, hr1, hp1⟩
  have HK1 : Hid (Keep b w0 w1) := hk1
  have HR1 : Hid (rst s j1 = Pl.skip (rst s i)) := hr1
  have HP1 : Hid (PB w1 b s j1 (d + 1) (.pointer none)) := hp1
  have hij : i ≤ j1 := skip_pos hr1 hi hj1
  have q1 : w1.cell? ⟨w.heap.size, 0, none⟩ = some (.pointer (some ⟨b, 0, none⟩)) := by
    rw [hk1.cell (p := ⟨w.heap.size, 0, none⟩) (by rw [S0.out]; simp) (by show w.heap.size ≠ b; omega)]; exact Q0.out
  have c1 := hp1.c1
  have f1 := hp1.fz 1
  have S1 : Hid (w.heap.size < w1.heap.size) := by show _ < _; have := hk1.size; have := S0.out; omega
  clear hk1 hr1 hp1
  have e33 := tok_c 33 (by decide) (Pl.skip (rst s i))
  have e40 := tok_c 40 (by decide) (Pl.skip (rst s i))
  rw [H40.out] at e40
  have h33 : Pl.headIs 33 (Pl.skip (rst s i)) = false := by
    have := H40.out
    match hl : Pl.skip (rst s i) with
    | [] => rfl
    | c :: t => rw [hl] at this; simp [Pl.headIs] at this; rw [this]; rfl
  rw [h33] at e33
  clear h33
  have hlt : j1 < s.size := head_lt (c := 40) (by rw [HR1.out]; exact H40.out)
  have HSUB : Hid (Pl.orL (Pl.andL (Pl.notF (Pl.Dn (dfB dv)) N f) N true) N false (rst s (j1 + 1)) = some (bv, [])) := by
    show _ = _
    rw [← rst_tail, HR1.out]; exact HA.out
  go_wp2_with fail
  have P2 : Hid (PB (w1.setCell ⟨b, 1, none⟩ (.int .i64 ((j1 : Int) + 1))) b s (j1 + 1) (d + 1) (.pointer none)) := HP1.out.set1 _ _ (by omega)
  refine (HO.out _ b s (j1 + 1) (d + 1) bv [] P2.out (by omega) hs (by omega) HSUB.out).mono ?_
  rintro e w2 ⟨v2, F2, j2, rfl, hk2, hj2, hjj, hr2, hp2, hd2, hlo2⟩
  have KK : Hid (Keep b w w2) := ((K0.out.trans HK1.out).setCell _ _).trans hk2
  have q2 : w2.cell? ⟨w.heap.size, 0, none⟩ = some (.pointer (some ⟨b, 0, none⟩)) := by
    rw [hk2.cell (p := ⟨w.heap.size, 0, none⟩) (by have := S1.out; simpa using this) (by show w.heap.size ≠ b; omega), World.cell?_setCell_other _ _ _ _ (by intro h; injection h; omega)]; exact q1
  obtain rfl : j2 = s.size := by
    have := congrArg List.length hr2
    rw [rst_len] at this; simp at this; omega
  have HP2 : Hid (PB w2 b s s.size (d + 1) (.pointer none)) := hp2
  have S2 : Hid (w.heap.size < w2.heap.size) := by show _ < _; have h1 := hk2.size; rw [World.size_setCell] at h1; have := S1.out; omega
  obtain ⟨hF2, T, x, fn, y, rfl, hrest⟩ := hd2
  clear hF2 hrest hk2 hr2 hp2 hlo2 q1 c1 f1
  have c3 := HP2.out.c3
  have peekEnd : ∀ W, PB W b s s.size (d + 1) (.pointer none) → Calls Ybaf.prog 13 #[.pointer (some ⟨b, 0, none⟩)] W fun e w' => e = .returned (.string ⟨#[]⟩) ∧ Keep b W w' ∧ PB w' b s s.size (d + 1) (.pointer none) := by
    intro W hW
    refine (peek_any W b s s.size (d + 1) _ hW (Nat.le_refl _) (by unfold maxLen; omega)).mono ?_
    rintro e w' ⟨rfl, hk, j, hj, hr, hp⟩
    have hz : rst s s.size = [] := rst_end s _ (Nat.le_refl _)
    rw [hz] at hr ⊢
    have := congrArg List.length hr
    rw [rst_len] at this
    have hz2 : (Pl.skip ([] : List UInt8)).length = 0 := rfl
    rw [hz2] at this
    obtain rfl : j = s.size := by omega
    exact ⟨rfl, hk, hp⟩
  have PE : Hid (∀ W, PB W b s s.size (d + 1) (.pointer none) → Calls Ybaf.prog 13 #[.pointer (some ⟨b, 0, none⟩)] W fun e w' => e = .returned (.string ⟨#[]⟩) ∧ Keep b W w' ∧ PB w' b s s.size (d + 1) (.pointer none)) := peekEnd
  clear peekEnd
  go_wp2_with fail
  refine (PE.out w2 HP2.out).mono ?_
  rintro e w3 ⟨rfl, hk3, hp3⟩
  have q3 : w3.cell? ⟨w.heap.size, 0, none⟩ = some (.pointer (some ⟨b, 0, none⟩)) := by
    rw [hk3.cell (p := ⟨w.heap.size, 0, none⟩) S2.out (by show w.heap.size ≠ b; omega)]; exact q2
  have HP3 : Hid (PB w3 b s s.size (d + 1) (.pointer none)) := hp3
  have K3 : Hid (Keep b w w3) := KK.out.trans hk3
  have S3 : Hid (w.heap.size < w3.heap.size) := by show _ < _; have := hk3.size; have := S2.out; omega
  clear hk3 hp3 q2 c3
  have T3 : Hid (F.answers w3.tape) := by show F.answers w3.tape; rw [K3.out.tape]; exact HFF.out
  go_wp2_with fail
  go_region_held3 (fun w' => w'.cell? ⟨w.heap.size, 0, none⟩ = some (.pointer (some ⟨b, 0, none⟩))) (first | assumption | exact kq1 _ (by assumption) | exact kq1 _ (kq2 (kq1 _ (by assumption)) (by omega))) (first
    | (go_at_call 13; refine (PE.out _ ?_).mono ?_; exact HP3.out; rintro e w4 ⟨rfl, hk4, hp4⟩; have q4 : w4.cell? ⟨w.heap.size, 0, none⟩ = some (.pointer (some ⟨b, 0, none⟩)) := (by rw [hk4.cell (p := ⟨w.heap.size, 0, none⟩) S3.out (by show w.heap.size ≠ b; omega)]; exact q3); have K4 : Hid (Keep b w w4) := K3.out.drew.trans hk4; have HP4 : Hid (PB w4 b s s.size (d + 1) (.pointer none)) := hp4; have S4 : w.heap.size < w4.heap.size := Nat.lt_of_lt_of_le S3.out hk4.size; have hF4 := answers_open (show F.answers w4.tape by rw [hk4.tape]; exact T3.out); clear hk4 hp4)
    | (go_at_call 21; refine (desc_end _).mono ?_; rintro e w5 ⟨rfl, rfl⟩)
    | (go_at_call 14; refine (fail_any b s _ s.size (d + 1) _ ?_).mono ?_; exact (HP4.out.alloc _); rintro e w6 ⟨rfl, rfl⟩))
  have HPe : Hid (PB (((w5.alloc (.cells #[.iface 9 (.string ⟨#[116, 104, 101, 32, 101, 110, 100, 32, 111, 102, 32, 116, 104, 101, 32, 101, 120, 112, 114, 101, 115, 115, 105, 111, 110]⟩)] 20)).setCell ⟨b, 3, none⟩ (.pointer (some ⟨w5.heap.size + 1, 0, none⟩)))) b s s.size (d + 1) (.pointer (some ⟨w5.heap.size + 1, 0, none⟩))) := (HP4.out.alloc _).set3 _
  go_wp2_with fail
  refine leaves_cons (f := 20) (args := #[.pointer (some ⟨w.heap.size, 0, none⟩)]) (by simp) (by simp [go_sem]) ?_
  refine (dec_any b w.heap.size d (by omega) .returning _ ?_ ?_ ?_).mono ?_
  · exact kq1 _ (kq2 (kq1 _ q4) (by omega))
  · exact (HPe.out.alloc _).c2
  · exact (HPe.out.alloc _).fz 2
  rintro e u' w'' ⟨rfl, rfl, rfl⟩
  refine ⟨_, results_tmp rfl _ _ _, bad_close hbs (eb := w5.heap.size + 1) (((K4.out.alloc _).setCell _ _).alloc _).drew (HPe.out.alloc _).drew (by omega) (alloc_at _ _ _ (by simp))⟩
end Go.Proofs.YbulkfrueFmt
