import Derived.Test.YbulkfsekDoorWb
/-
  LamportClocks WALKED.
-/
namespace Go.Proofs.YbulkfsekDoor
open Go.RowKit Go.WideMaps Go.Maps

def LamPost (w : World) (n : Nat) (ep ek em : Nat → ByteArray) (e : Ending) (w' : World) : Prop := e = .returned (.slice (some ⟨w.heap.size + 2, 0, none⟩) n n) ∧ LC w n n ep ek em w'

set_option maxRecDepth 100000 in
set_option maxHeartbeats 2000000 in
theorem lam_any (w : World) (rb eb n : Nat) (ep ek em : Nat → ByteArray) (hn : n ≤ 4096) (heb : eb < w.heap.size) (hr : w.cell? ⟨rb, 0, none⟩ = some (.slice (some ⟨eb, 0, none⟩) n n)) (hE : EV w eb n ep ek em) (hs : ∀ i, (ep i).size ≤ 1000 ∧ (em i).size ≤ 1000) :
    Calls Ybad.prog 11 #[.pointer (some ⟨rb, 0, none⟩)] w (LamPost w n ep ek em) := by
  have hmk : ∀ w : World, (Instr.makeSlice 38 (.int .i64 (n : Int)) (.int .i64 (n : Int))).run Ybad.prog w = .ok (.slice (some ⟨w.heap.size, 0, none⟩) n n) (w.alloc (.cells (madeCells #[.int .u64 0] n) 40)) := fun w => mkU w n hn
  have hmm := @run_makeMap Ybad.prog
  have hr2 : ((w.alloc (.map #[] 0)).alloc (.map #[] 0)).cell? ⟨rb, 0, none⟩ = some (.slice (some ⟨eb, 0, none⟩) n n) := cell_old _ (cell_old _ hr)
  have hr3 : (((w.alloc (.map #[] 0)).alloc (.map #[] 0)).alloc (.cells (madeCells #[.int .u64 0] n) 40)).cell? ⟨rb, 0, none⟩ = some (.slice (some ⟨eb, 0, none⟩) n n) := cell_old _ hr2
  have HE : Hid (EV w eb n ep ek em) := hE
  have HS : Hid (∀ i, (ep i).size ≤ 1000 ∧ (em i).size ≤ 1000) := hs
  clear hE hs
  go_enter Ybad.func11, Ybad.ntmps11
  go_wp2_with fail
  clear hmk hmm
  go_loopg [24] n (fun g s24 wr => ∃ k : Nat, k ≤ n ∧ g = n - k ∧ s24 = .int .i64 k ∧ LC w n k ep ek em wr)
  case atStart => exact ⟨0, by omega, rfl, rfl, LC.start w n ep ek em⟩
  case round =>
    obtain ⟨k, hk, hg, rfl, hL⟩ := hrel
    have HL : Hid (LC w n k ep ek em wr) := hL
    have HG : Hid (gk = n - k) := hg
    clear hL hg
    by_cases hlt : k < n
    · have hki : (k : Int) < (n : Int) := by omega
      obtain ⟨ev0, ev1, ev2, ev3⟩ := HE.out k hlt
      have e0 : wr.cell? ⟨eb, k * 4, none⟩ = some (.string (ep k)) := (HL.out.below.cell heb).trans ev0
      have e1 : wr.cell? ⟨eb, k * 4 + 1, none⟩ = some (.string ⟨#[101]⟩) := (HL.out.below.cell heb).trans ev1
      have e2 : wr.cell? ⟨eb, k * 4 + 2, none⟩ = some (.string (ek k)) := (HL.out.below.cell heb).trans ev2
      have e3 : wr.cell? ⟨eb, k * 4 + 3, none⟩ = some (.string (em k)) := (HL.out.below.cell heb).trans ev3
      clear ev0 ev1 ev2 ev3
      obtain ⟨c, hc⟩ : ∃ c : Nat, c = (Pl.stp ep ek em k).1 (ep k) := ⟨_, rfl⟩
      obtain ⟨r, hr'⟩ : ∃ r : Nat, r = (Pl.stp ep ek em k).2 (em k) := ⟨_, rfl⟩
      have hcl : c ≤ k := by rw [hc]; exact (Pl.stp_le ep ek em k (ep k)).1
      have hrl : r ≤ k := by rw [hr']; exact (Pl.stp_le ep ek em k (em k)).2
      have hl1 := (HL.out.cur.alloc (.cells #[.string (ep k), .string ⟨#[101]⟩, .string (ek k), .string (em k)] 33)).look (ep k) (HS.out k).1
      have hl2 := (HL.out.car.alloc (.cells #[.string (ep k), .string ⟨#[101]⟩, .string (ek k), .string (em k)] 33)).look (em k) (HS.out k).2
      rw [← hc] at hl1
      rw [← hr'] at hl2
      have HC : Hid (c = (Pl.stp ep ek em k).1 (ep k)) := hc
      have HR : Hid (r = (Pl.stp ep ek em k).2 (em k)) := hr'
      have hwz : w.heap.size + 3 ≤ wr.heap.size := HL.out.size
      clear hc hr'
      by_cases hre : ek k = Pl.reS
      · have hse : ¬ ek k = Pl.seS := by rw [hre]; decide
        have hreb : ((ek k).toList == [114, 101, 99, 101, 105, 118, 101]) = true := by rw [re_eq]; simp [hre]
        have hseb : ((ek k).toList == [115, 101, 110, 100]) = false := by rw [se_eq]; simp [hse]
        have hck : max c r + 1 = Pl.ck ep ek em k := by rw [HC.out, HR.out]; unfold Pl.ck Pl.clk; rw [if_pos hre]
        have HCK : Hid (max c r + 1 = Pl.ck ep ek em k) := hck
        clear hck
        have HRE : Hid (ek k = Pl.reS) := hre
        clear hre
        go_wp2_with fail
        refine (later_any c r (by omega) (by omega) _).mono ?_
        rintro e w' ⟨rfl, rfl⟩
        rw [HCK.out]
        have hlc : Pl.ck ep ek em k ≤ k + 1 := Pl.ck_le ep ek em k
        go_wp2_with (first | (at_mapUpdate; refine wpList_put _ rfl _ _ _ rfl w.heap.size k (Pl.stp ep ek em k).1 (ep k) (Pl.ck ep ek em k) rfl rfl rfl (HL.out.cur.alloc _) (by omega) (HS.out k).1 (by omega) ?_))
        intro w2 hm2 hg2
        have M2 : Hid (MapAt w2 w.heap.size (k + 1) (Pl.upd (Pl.stp ep ek em k).1 (ep k) (Pl.ck ep ek em k))) := hm2
        have G2 : Hid ((wr.alloc (.cells #[.string (ep k), .string ⟨#[101]⟩, .string (ek k), .string (em k)] 33)).grownBy w2 (some w.heap.size)) := hg2
        have K2 : Hid (∀ j v, wr.cell? ⟨w.heap.size + 2, j, none⟩ = some v → w2.cell? ⟨w.heap.size + 2, j, none⟩ = some v) := fun j v hv => cell_grown hg2 (cell_old _ hv) (by simp)
        have F2 : Hid (∀ j, w2.frozen? ⟨w.heap.size + 2, j, none⟩ = false) := fun j => fz_grown hg2 (by simp; have := HL.out.size; omega) (fz_old _ (by have := HL.out.size; omega) (HL.out.fz j)) (by simp)
        have B2 : Hid (Below w.heap.size w w2) := (HL.out.below.alloc (by have := HL.out.size; omega) _).grown hg2 (by simp; have := HL.out.size; omega) (fun q hq => by injection hq with hq; omega)
        have Z2 : w.heap.size + 3 ≤ w2.heap.size := by have := hg2.size; simp at this; have := HL.out.size; omega
        have y0 : w2.cell? ⟨w.heap.size + 1 + 1, k, none⟩ = some (.int .u64 ((if k < k then Pl.ck ep ek em k else 0 : Nat) : Int)) := K2.out _ _ (HL.out.cells k hlt)
        have y1 : w2.frozen? ⟨w.heap.size + 1 + 1, k, none⟩ = false := F2.out k
        clear hm2 hg2
        go_wp2_with fail
        go_roundg (n - (k + 1))
        case measure => rw [HG.out]; omega
        case rel => exact ⟨k + 1, by omega, rfl, by go_num, HL.out.step hlt B2.out Z2 M2.out (by rw [show (Pl.stp ep ek em (k + 1)).2 = (Pl.stp ep ek em k).2 from if_neg hse]; exact ((HL.out.car.alloc _).kept G2.out (by simp)).mono (Nat.le_succ k)) K2.out F2.out⟩
      by_cases hse : ek k = Pl.seS
      · have hreb : ((ek k).toList == [114, 101, 99, 101, 105, 118, 101]) = false := by rw [re_eq]; simp [hre]
        have hseb : ((ek k).toList == [115, 101, 110, 100]) = true := by rw [se_eq]; simp [hse]
        have hck : max c 0 + 1 = Pl.ck ep ek em k := by rw [HC.out]; unfold Pl.ck Pl.clk; rw [if_neg hre]
        have HCK : Hid (max c 0 + 1 = Pl.ck ep ek em k) := hck
        clear hck
        have HSE : Hid (ek k = Pl.seS) := hse
        clear hse
        go_wp2_with fail
        refine (later_any c 0 (by omega) (by omega) _).mono ?_
        rintro e w' ⟨rfl, rfl⟩
        rw [HCK.out]
        have hlc : Pl.ck ep ek em k ≤ k + 1 := Pl.ck_le ep ek em k
        go_wp2_with (first | (at_mapUpdate; refine wpList_put _ rfl _ _ _ rfl (w.heap.size + 1) k (Pl.stp ep ek em k).2 (em k) (Pl.ck ep ek em k) rfl rfl rfl (HL.out.car.alloc _) (by omega) (HS.out k).2 (by omega) ?_))
        intro w1 hm1 hg1
        have M1 : Hid (MapAt w1 (w.heap.size + 1) (k + 1) (Pl.upd (Pl.stp ep ek em k).2 (em k) (Pl.ck ep ek em k))) := hm1
        have G1 : Hid ((wr.alloc (.cells #[.string (ep k), .string ⟨#[101]⟩, .string (ek k), .string (em k)] 33)).grownBy w1 (some (w.heap.size + 1))) := hg1
        have x0 : w1.cell? ⟨wr.heap.size, 0, none⟩ = some (.string (ep k)) := cell_grown hg1 (at_new rfl rfl) (by intro e; injection e with e; have e2 : wr.heap.size = w.heap.size + 1 := e; omega)
        have C0 : Hid (MapAt w1 w.heap.size k (Pl.stp ep ek em k).1) := (HL.out.cur.alloc _).kept hg1 (by simp)
        clear hm1 hg1
        go_wp2_with (first | (at_mapUpdate; refine wpList_put _ rfl _ _ _ rfl w.heap.size k (Pl.stp ep ek em k).1 (ep k) (Pl.ck ep ek em k) rfl rfl rfl C0.out (by omega) (HS.out k).1 (by omega) ?_))
        intro w2 hm2 hg2
        have M2 : Hid (MapAt w2 w.heap.size (k + 1) (Pl.upd (Pl.stp ep ek em k).1 (ep k) (Pl.ck ep ek em k))) := hm2
        have G2 : Hid (w1.grownBy w2 (some w.heap.size)) := hg2
        have K2 : Hid (∀ j v, wr.cell? ⟨w.heap.size + 2, j, none⟩ = some v → w2.cell? ⟨w.heap.size + 2, j, none⟩ = some v) := fun j v hv => cell_grown hg2 (cell_grown G1.out (cell_old _ hv) (by simp)) (by simp)
        have F2 : Hid (∀ j, w2.frozen? ⟨w.heap.size + 2, j, none⟩ = false) := fun j => fz_grown hg2 (by have := G1.out.size; simp at this; have := HL.out.size; show w.heap.size + 2 < _; omega) (fz_grown G1.out (by simp; have := HL.out.size; omega) (fz_old _ (by have := HL.out.size; omega) (HL.out.fz j)) (by simp)) (by simp)
        have B2 : Hid (Below w.heap.size w w2) := ((HL.out.below.alloc (by have := HL.out.size; omega) _).grown G1.out (by simp; have := HL.out.size; omega) (fun q hq => by injection hq with hq; omega)).grown hg2 (by have := G1.out.size; simp at this; have := HL.out.size; omega) (fun q hq => by injection hq with hq; omega)
        have Z2 : w.heap.size + 3 ≤ w2.heap.size := by have := hg2.size; have := G1.out.size; simp at this; have := HL.out.size; omega
        have y0 : w2.cell? ⟨w.heap.size + 1 + 1, k, none⟩ = some (.int .u64 ((if k < k then Pl.ck ep ek em k else 0 : Nat) : Int)) := K2.out _ _ (HL.out.cells k hlt)
        have y1 : w2.frozen? ⟨w.heap.size + 1 + 1, k, none⟩ = false := F2.out k
        clear hm2 hg2
        go_wp2_with fail
        go_roundg (n - (k + 1))
        case measure => rw [HG.out]; omega
        case rel => exact ⟨k + 1, by omega, rfl, by go_num, HL.out.step hlt B2.out Z2 M2.out (by rw [show (Pl.stp ep ek em (k + 1)).2 = Pl.upd (Pl.stp ep ek em k).2 (em k) (Pl.ck ep ek em k) from if_pos HSE.out]; exact M1.out.kept G2.out (by simp)) K2.out F2.out⟩
      · have hreb : ((ek k).toList == [114, 101, 99, 101, 105, 118, 101]) = false := by rw [re_eq]; simp [hre]
        have hseb : ((ek k).toList == [115, 101, 110, 100]) = false := by rw [se_eq]; simp [hse]
        have hck : max c 0 + 1 = Pl.ck ep ek em k := by rw [HC.out]; unfold Pl.ck Pl.clk; rw [if_neg hre]
        have HCK : Hid (max c 0 + 1 = Pl.ck ep ek em k) := hck
        clear hck
        go_wp2_with fail
        refine (later_any c 0 (by omega) (by omega) _).mono ?_
        rintro e w' ⟨rfl, rfl⟩
        rw [HCK.out]
        have hlc : Pl.ck ep ek em k ≤ k + 1 := Pl.ck_le ep ek em k
        go_wp2_with (first | (at_mapUpdate; refine wpList_put _ rfl _ _ _ rfl w.heap.size k (Pl.stp ep ek em k).1 (ep k) (Pl.ck ep ek em k) rfl rfl rfl (HL.out.cur.alloc _) (by omega) (HS.out k).1 (by omega) ?_))
        intro w2 hm2 hg2
        have M2 : Hid (MapAt w2 w.heap.size (k + 1) (Pl.upd (Pl.stp ep ek em k).1 (ep k) (Pl.ck ep ek em k))) := hm2
        have G2 : Hid ((wr.alloc (.cells #[.string (ep k), .string ⟨#[101]⟩, .string (ek k), .string (em k)] 33)).grownBy w2 (some w.heap.size)) := hg2
        have K2 : Hid (∀ j v, wr.cell? ⟨w.heap.size + 2, j, none⟩ = some v → w2.cell? ⟨w.heap.size + 2, j, none⟩ = some v) := fun j v hv => cell_grown hg2 (cell_old _ hv) (by simp)
        have F2 : Hid (∀ j, w2.frozen? ⟨w.heap.size + 2, j, none⟩ = false) := fun j => fz_grown hg2 (by simp; have := HL.out.size; omega) (fz_old _ (by have := HL.out.size; omega) (HL.out.fz j)) (by simp)
        have B2 : Hid (Below w.heap.size w w2) := (HL.out.below.alloc (by have := HL.out.size; omega) _).grown hg2 (by simp; have := HL.out.size; omega) (fun q hq => by injection hq with hq; omega)
        have Z2 : w.heap.size + 3 ≤ w2.heap.size := by have := hg2.size; simp at this; have := HL.out.size; omega
        have y0 : w2.cell? ⟨w.heap.size + 1 + 1, k, none⟩ = some (.int .u64 ((if k < k then Pl.ck ep ek em k else 0 : Nat) : Int)) := K2.out _ _ (HL.out.cells k hlt)
        have y1 : w2.frozen? ⟨w.heap.size + 1 + 1, k, none⟩ = false := F2.out k
        clear hm2 hg2
        go_wp2_with fail
        go_roundg (n - (k + 1))
        case measure => rw [HG.out]; omega
        case rel => exact ⟨k + 1, by omega, rfl, by go_num, HL.out.step hlt B2.out Z2 M2.out (by rw [show (Pl.stp ep ek em (k + 1)).2 = (Pl.stp ep ek em k).2 from if_neg hse]; exact ((HL.out.car.alloc _).kept G2.out (by simp)).mono (Nat.le_succ k)) K2.out F2.out⟩
    · obtain rfl : k = n := by omega
      have hki : ¬ (k : Int) < (k : Int) := by omega
      go_wp2_with fail
      go_ret
      exact ⟨rfl, HL.out⟩
end Go.Proofs.YbulkfsekDoor
