import Derived.Test.YbulkfrvgWf
/-
  THE LAW WALKED: the row filled, newLot, both endings.
-/
namespace Go.Proofs.Ybulkfrvg
open Go.RowKit

set_option maxRecDepth 100000 in
set_option maxHeartbeats 2000000 in
theorem law_1 (w : World) (a0 a1 : Nat) (h0 : a0 < 65536) (h1 : a1 < 65536) (n ex : Nat) (hn : (a0 : Int) % 2048 = (n : Int)) (hx : (a1 : Int) % 2048 = (ex : Int)) (cl nm : ByteArray) (cf rd : Int) :
   Calls Yba.prog 3 #[.int .u16 (a0 : Int), .int .u16 (a1 : Int), .string cl, .string nm, .int .i64 cf, .int .i64 rd] w (fun e w' => e = .returned (.bool true) ∧ Grown w w') := by
  have hn2 : n < 2048 := by omega
  have hx2 : ex < 2048 := by omega
  have hmk : (Instr.makeSlice 23 (.int .i64 ((n : Int) + (ex : Int))) (.int .i64 ((n : Int) + (ex : Int)))).run Yba.prog w = .ok (.slice (some ⟨w.heap.size, 0, none⟩) (n + ex) (n + ex)) (w.alloc (.cells (madeCells zeroL.toArray ((n + ex) * 6)) 29)) := mk_run w (n + ex) (by omega)
  have hpn := ptr_ne
  have hep : ∀ w : World, (Op.equalIn 9998 25 (.pointer none) (.pointer none)).run Yba.prog w = .ok true w := nil_eq
  go_enter Yba.func3, Yba.ntmps3
  go_upto_region 3 with (fail)
  rw [hn, hx]
  clear hn hx
  go_wp2_with fail
  clear hmk
  go_loopg [16] n (fun g s16 wr => ∃ k : Nat, k ≤ n ∧ g = n - k ∧ s16 = .int .i64 k ∧ LW w (n + ex) k wr)
  case atStart =>
    exact ⟨0, by omega, rfl, rfl, LW.start w (n + ex)⟩
  case round =>
    obtain ⟨k, hk, hg, rfl, hL⟩ := hrel
    have HL : Hid (LW w (n + ex) k wr) := hL
    have HG : Hid (gk = n - k) := hg
    clear hL hg
    by_cases hlt : k < n
    · have hki : (k : Int) < (n : Int) := by omega
      have rw0 : ∀ i v, zeroL[i]? = some v → wr.cell? ⟨w.heap.size, k * 6 + i, none⟩ = some v := fun i v hv => HL.out.row k (by omega) i v (by rw [if_neg (Nat.lt_irrefl k)]; exact hv)
      have c0 : wr.cell? ⟨w.heap.size, k * 6, none⟩ = some (.string ⟨#[]⟩) := rw0 0 _ rfl
      have c1 := rw0 1 _ rfl
      have c2 := rw0 2 _ rfl
      have c3 := rw0 3 _ rfl
      have c4 := rw0 4 _ rfl
      have c5 := rw0 5 _ rfl
      have f0 : wr.frozen? ⟨w.heap.size, k * 6, none⟩ = false := by rw [HL.out.fz]; exact out_frozen _ _
      have f1 : wr.frozen? ⟨w.heap.size, k * 6 + 1, none⟩ = false := by rw [HL.out.fz]; exact out_frozen _ _
      have f2 : wr.frozen? ⟨w.heap.size, k * 6 + 2, none⟩ = false := by rw [HL.out.fz]; exact out_frozen _ _
      have f3 : wr.frozen? ⟨w.heap.size, k * 6 + 3, none⟩ = false := by rw [HL.out.fz]; exact out_frozen _ _
      have f4 : wr.frozen? ⟨w.heap.size, k * 6 + 4, none⟩ = false := by rw [HL.out.fz]; exact out_frozen _ _
      have f5 : wr.frozen? ⟨w.heap.size, k * 6 + 5, none⟩ = false := by rw [HL.out.fz]; exact out_frozen _ _
      have hbl := HL.out.lt
      clear rw0
      go_wp2_with fail
      refine (lot_any k (by omega) _).mono ?_
      rintro e w' ⟨rfl, rfl⟩
      go_wp2_with fail
      go_roundg (n - (k + 1))
      case measure => rw [HG.out]; omega
      case rel => exact ⟨k + 1, by omega, rfl, by go_num, HL.out.step (by omega)⟩
    · obtain rfl : k = n := by omega
      have hki : ¬ (k : Int) < (k : Int) := by omega
      have hbl := HL.out.lt
      have af := af_start HL.out (Nat.le_add_right k ex) (k + ex) [.string cl, .string nm, .int .i64 cf, .int .i64 rd, .int .i64 0, .pointer none]
      have hz : ∀ j, k ≤ j → j < k + ex → ∀ i v, zeroL[i]? = some v → ((wr.alloc (.cells (regR w.heap.size k (k + ex)) 45)).alloc (.cells ([.string cl, .string nm, .int .i64 cf, .int .i64 rd, .int .i64 0, .pointer none] : List Value).toArray 29)).cell? ⟨w.heap.size, j * 6 + i, none⟩ = some v := fun j h1 h2 i v hv =>
        cell_old _ (cell_old _ (HL.out.row j h2 i v (by rw [if_neg (by omega)]; exact hv)))
      have hr12 : ((wr.alloc (.cells (regR w.heap.size k (k + ex)) 45)).alloc (.cells ([.string cl, .string nm, .int .i64 cf, .int .i64 rd, .int .i64 0, .pointer none] : List Value).toArray 29)).cell? ⟨wr.heap.size, 12, none⟩ = some (.slice (some ⟨w.heap.size, 0, none⟩) k (k + ex)) := cell_old _ (at_new rfl rfl)
      obtain ⟨W2, hW2⟩ : ∃ W2 : World, W2 = ((wr.alloc (.cells (regR w.heap.size k (k + ex)) 45)).alloc (.cells ([.string cl, .string nm, .int .i64 cf, .int .i64 rd, .int .i64 0, .pointer none] : List Value).toArray 29)) := ⟨_, rfl⟩
      obtain ⟨rb, hrb⟩ : ∃ rb : Nat, rb = wr.heap.size := ⟨_, rfl⟩
      obtain ⟨lb, hlb⟩ : ∃ lb : Nat, lb = wr.heap.size + 1 := ⟨_, rfl⟩
      rw [← hW2] at af hz hr12
      rw [← hlb, ← hrb] at af
      rw [← hrb] at hr12
      have hfr : W2.frozen? ⟨rb, 12, none⟩ = false := by
        rw [hW2, frozen?_alloc_cells, hrb]; exact fz_new rfl
      have hfb : ∀ o, W2.frozen? ⟨w.heap.size, o, none⟩ = false := fun o => by rw [af.fz]; exact out_frozen _ _
      have hrw : w.heap.size < rb := by omega
      have hrl : rb ≠ lb := by omega
      have hlw : lb ≠ w.heap.size := by omega
      have hW2s : W2.heap.size = lb + 1 := by rw [hW2, hlb]; simp
      have AFH : Hid (AF w k rb lb [.string cl, .string nm, .int .i64 cf, .int .i64 rd, .int .i64 0, .pointer none] W2) := af
      have HZ : Hid (∀ j, k ≤ j → j < k + ex → ∀ i v, zeroL[i]? = some v → W2.cell? ⟨w.heap.size, j * 6 + i, none⟩ = some v) := hz
      have H12 : Hid (W2.cell? ⟨rb, 12, none⟩ = some (.slice (some ⟨w.heap.size, 0, none⟩) k (k + ex))) := hr12
      have HFR : Hid (W2.frozen? ⟨rb, 12, none⟩ = false) := hfr
      have HFB : Hid (∀ o, W2.frozen? ⟨w.heap.size, o, none⟩ = false) := hfb
      have HW2 : Hid (W2 = ((wr.alloc (.cells (regR w.heap.size k (k + ex)) 45)).alloc (.cells ([.string cl, .string nm, .int .i64 cf, .int .i64 rd, .int .i64 0, .pointer none] : List Value).toArray 29))) := hW2
      have HRB : Hid (rb = wr.heap.size) := hrb
      have HLB : Hid (lb = wr.heap.size + 1) := hlb
      clear af hz hr12 hfr hfb hW2 hrb hlb
      go_wp2_with fail
      have e1 : ((wr.alloc (.cells #[.string ⟨#[100]⟩, .pointer none, .map none, .slice none 0 0, .pointer none, .pointer none, .string ⟨#[114, 101, 103]⟩, .slice none 0 0, .map none, .map none, .slice none 0 0, .map none, .slice (some ⟨w.heap.size, 0, none⟩) k (k + ex), .slice none 0 0, .pointer none] 45)).alloc (.cells #[.string cl, .string nm, .int .i64 cf, .int .i64 rd, .int .i64 0, .pointer none] 29)) = W2 := HW2.out.symm
      have hlb1 : rb + 1 = lb := by rw [HRB.out, HLB.out]
      rw [e1, ← HRB.out, hlb1]
      clear e1 hlb1
      by_cases hex : ex = 0
      · have hN12 : W2.cell? ⟨rb, 12, none⟩ = some (.slice (some ⟨w.heap.size, 0, none⟩) k k) := by
          have h12 := H12.out
          rw [hex, Nat.add_zero] at h12
          exact h12
        have ma : ∀ (i : Nat) (v : Value), zeroL[i]? = some v → (madeCells zeroL.toArray (1024 * 6))[i]? = some v := fun i v hv => by
          have hi : i < 6 := (List.getElem?_eq_some_iff.1 hv).1
          exact made_at 1024 i i v (by omega) (Nat.mod_eq_of_lt hi) hv
        refine (new_full W2 rb w.heap.size k AFH.out.rz _ mk_full (ma 0 _ rfl) (ma 1 _ rfl) (ma 2 _ rfl) (ma 3 _ rfl) (ma 4 _ rfl) (ma 5 _ rfl) cl nm cf rd hN12 HFR.out).mono ?_
        intro e W4 hNF
        obtain ⟨rfl, hN⟩ := nf_nw hNF rfl ma _ H12.out
        clear hNF ma hN12
        obtain ⟨nb, hnb⟩ : ∃ nb : Nat, nb = W2.heap.size + 1 := ⟨_, rfl⟩
        rw [← hnb] at hN
        rw [← hnb]
        have hnl : lb < nb := by omega
        have hnr : rb < nb := by have := AFH.out.rz; omega
        have NW : Hid (Nw W2 rb nb 0 (.slice (some ⟨nb, 0, none⟩) 1 1024) [.string cl, .string nm, .int .i64 cf, .int .i64 rd, .int .i64 0, .pointer none] W4) := hN
        have A4 : Hid (AF w k rb lb [.string cl, .string nm, .int .i64 cf, .int .i64 rd, .int .i64 0, .pointer none] W4) := af_nw AFH.out hN (by omega) (by omega) (by omega) (by omega) hrl (by omega) (fun e => absurd e (by omega))
        have hexb : ((ex : Int) == 0) = true := by simp; omega
        have hnw : nb ≠ w.heap.size := by omega
        have HEX : Hid (ex = 0) := hex
        clear hN hnb hex
        go_wp2_with fail
        go_loopg [20] k (fun g s20 wx => ∃ j : Nat, j ≤ k ∧ g = k - j ∧ s20 = .int .i64 j ∧ Ex W4 wx)
        case atStart => exact ⟨0, by omega, rfl, rfl, Ex.refl _⟩
        case round =>
          obtain ⟨j, hj, hg, rfl, hE⟩ := hrel
          have HE : Hid (Ex W4 wr) := hE
          have HG2 : Hid (gk = k - j) := hg
          have hbz : w.heap.size < wr.heap.size := (A4.out.to hE).bz
          clear hE hg
          by_cases hlt2 : j < k
          · have hji : (j : Int) < (k : Int) := by omega
            have hjN : (j : Int) < (k : Int) + (ex : Int) := by omega
            have rw0 : ∀ i v, (lotL j)[i]? = some v → wr.cell? ⟨w.heap.size, j * 6 + i, none⟩ = some v := fun i v hv => HE.out.cell (A4.out.lots j hlt2 i v hv)
            have c0 : wr.cell? ⟨w.heap.size, j * 6, none⟩ = some (.string ⟨#[99]⟩) := rw0 0 _ rfl
            have c1 := rw0 1 _ rfl
            have c2 := rw0 2 _ rfl
            have c3 := rw0 3 _ rfl
            have c4 := rw0 4 _ rfl
            have c5 := rw0 5 _ rfl
            clear rw0
            go_upto_region 16 with (fail)
            go_cut [68] (fun s wy => s = .bool false ∧ Ex W4 wy)
            case first =>
              go_region_with (go_at_call 4; refine (lot_any j (by omega) _).mono ?_; rintro e w' ⟨rfl, rfl⟩)
              all_goals (go_wp2_with fail; go_meet; exact ⟨rfl, by repeat (first | exact HE.out | apply Ex.drew | apply Ex.drawn | apply Ex.alloc)⟩)
            case rest =>
            obtain ⟨rfl, hE⟩ := hcut
            have HE3 : Hid (Ex W4 wc) := hE
            clear hE
            go_wp2_with fail
            go_roundg (k - (j + 1))
            case measure => rw [HG2.out]; omega
            case rel => exact ⟨j + 1, by omega, rfl, by go_num, HE3.out⟩
          · have hjk : ¬ (j : Int) < (k : Int) := by omega
            have A5 : Hid (AF w k rb lb [.string cl, .string nm, .int .i64 cf, .int .i64 rd, .int .i64 0, .pointer none] wr) := A4.out.to HE.out
            have r0 := A5.out.r0
            have r3 := A5.out.r3
            have r5 := A5.out.r5
            have r6 := A5.out.r6
            have r13 := A5.out.r13
            have r12 : wr.cell? ⟨rb, 12, none⟩ = some (.slice (some ⟨nb, 0, none⟩) 1 1024) := HE.out.cell NW.out.r12
            have nc : ∀ i v, ([.string cl, .string nm, .int .i64 cf, .int .i64 rd, .int .i64 0, .pointer none] : List Value)[i]? = some v → wr.cell? ⟨nb, i, none⟩ = some v := fun i v hv => by
              have := HE.out.cell (NW.out.new i v hv)
              rw [Nat.zero_add] at this
              exact this
            have c0 := nc 0 _ rfl
            have c1 := nc 1 _ rfl
            have c2 := nc 2 _ rfl
            have c3 := nc 3 _ rfl
            have c4 := nc 4 _ rfl
            have c5 := nc 5 _ rfl
            have l0 := A5.out.l 0 _ rfl
            have l1 := A5.out.l 1 _ rfl
            have l2 := A5.out.l 2 _ rfl
            have l3 := A5.out.l 3 _ rfl
            have l4 := A5.out.l 4 _ rfl
            have l5 := A5.out.l 5 _ rfl
            clear nc
            have hnz : nb < wr.heap.size := World.block_lt_of_cell? _ _ c0
            go_wp2_with fail
            by_cases hk0 : k = 0
            · have hk1 : ¬ (0 : Int) < (k : Int) := by omega
              go_quiet (fail)
              go_wp2_with fail
              go_quiet (fail)
              go_wp2_with fail
              go_ret
              exact ⟨rfl, (below_drawn (below_drawn A5.out.below _) _).frame _, A5.out.fz, A5.out.below.size⟩
            · have hk1 : (0 : Int) < (k : Int) := by omega
              have h0N : (0 : Int) < (k : Int) + (ex : Int) := by omega
              have hd1 : decide (0 < k) = true := by simp; omega
              have hd2 : decide ((0 : Int) < (k : Int)) = true := by simp; omega
              have HFW : Hid (∀ a : Addr, w.heap.size ≤ a.block → wr.frozen? a = false) := fun a ha => by rw [A5.out.fz]; exact out_frozen' _ _ ha
              have hpq : ∀ m, (binOp BinOp.eql 46 (.pointer (some ⟨nb, 0, none⟩)) (.pointer (some ⟨w.heap.size, 0, none⟩))).run Yba.prog (wr.drewN m) = .ok (.bool false) (wr.drewN m) := fun m => ptr_other (wr.drewN m) hnw (va := .string cl) (vb := .string ⟨#[99]⟩) c0 (A5.out.lots 0 (by omega) 0 _ rfl) (fun a ha => HFW.out a (by omega)) (fun a ha => HFW.out a (by omega))
              go_quiet (fail)
              go_wp2_with fail
              go_quiet (fail)
              go_wp2_with fail
              go_ret
              exact ⟨rfl, (below_drawn (below_drawn A5.out.below _) _).frame _, A5.out.fz, A5.out.below.size⟩
      · have hexp : 0 < ex := by omega
        refine (new_room W2 rb w.heap.size k ex hexp hn2 hx2 (by omega) AFH.out.rz AFH.out.bz cl nm cf rd H12.out HFR.out (HZ.out k (Nat.le_refl _) (by omega) 0 _ rfl) (HZ.out k (Nat.le_refl _) (by omega) 1 _ rfl) (HZ.out k (Nat.le_refl _) (by omega) 2 _ rfl) (HZ.out k (Nat.le_refl _) (by omega) 3 _ rfl) (HZ.out k (Nat.le_refl _) (by omega) 4 _ rfl) (HZ.out k (Nat.le_refl _) (by omega) 5 _ rfl) HFB.out).mono ?_
        intro e W4 hNR
        obtain ⟨rfl, hN⟩ := nr_nw hNR rfl (by omega) _ H12.out (fun i v hv => HZ.out k (Nat.le_refl _) (by omega) i v hv)
        have NW : Hid (Nw W2 rb w.heap.size (k * 6) (.slice (some ⟨w.heap.size, 0, none⟩) (k + 1) (k + ex)) [.string cl, .string nm, .int .i64 cf, .int .i64 rd, .int .i64 0, .pointer none] W4) := hN
        have A4 : Hid (AF w k rb lb [.string cl, .string nm, .int .i64 cf, .int .i64 rd, .int .i64 0, .pointer none] W4) := af_nw AFH.out hN (by omega) (Nat.le_refl _) (by omega) (by omega) hrl (by omega) (fun _ => Nat.le_refl _)
        clear hN hNR
        go_wp2_with fail
        go_loopg [20] k (fun g s20 wx => ∃ j : Nat, j ≤ k ∧ g = k - j ∧ s20 = .int .i64 j ∧ Ex W4 wx)
        case atStart => exact ⟨0, by omega, rfl, rfl, Ex.refl _⟩
        case round =>
          obtain ⟨j, hj, hg, rfl, hE⟩ := hrel
          have HE : Hid (Ex W4 wr) := hE
          have HG2 : Hid (gk = k - j) := hg
          have hbz : w.heap.size < wr.heap.size := (A4.out.to hE).bz
          clear hE hg
          by_cases hlt2 : j < k
          · have hji : (j : Int) < (k : Int) := by omega
            have hjN : (j : Int) < (k : Int) + (ex : Int) := by omega
            have rw0 : ∀ i v, (lotL j)[i]? = some v → wr.cell? ⟨w.heap.size, j * 6 + i, none⟩ = some v := fun i v hv => HE.out.cell (A4.out.lots j hlt2 i v hv)
            have c0 : wr.cell? ⟨w.heap.size, j * 6, none⟩ = some (.string ⟨#[99]⟩) := rw0 0 _ rfl
            have c1 := rw0 1 _ rfl
            have c2 := rw0 2 _ rfl
            have c3 := rw0 3 _ rfl
            have c4 := rw0 4 _ rfl
            have c5 := rw0 5 _ rfl
            clear rw0
            go_upto_region 16 with (fail)
            go_cut [68] (fun s wy => s = .bool false ∧ Ex W4 wy)
            case first =>
              go_region_with (go_at_call 4; refine (lot_any j (by omega) _).mono ?_; rintro e w' ⟨rfl, rfl⟩)
              all_goals (go_wp2_with fail; go_meet; exact ⟨rfl, by repeat (first | exact HE.out | apply Ex.drew | apply Ex.drawn | apply Ex.alloc)⟩)
            case rest =>
            obtain ⟨rfl, hE⟩ := hcut
            have HE3 : Hid (Ex W4 wc) := hE
            clear hE
            go_wp2_with fail
            go_roundg (k - (j + 1))
            case measure => rw [HG2.out]; omega
            case rel => exact ⟨j + 1, by omega, rfl, by go_num, HE3.out⟩
          · have hjk : ¬ (j : Int) < (k : Int) := by omega
            have A5 : Hid (AF w k rb lb [.string cl, .string nm, .int .i64 cf, .int .i64 rd, .int .i64 0, .pointer none] wr) := A4.out.to HE.out
            have r0 := A5.out.r0
            have r3 := A5.out.r3
            have r5 := A5.out.r5
            have r6 := A5.out.r6
            have r13 := A5.out.r13
            have r12 : wr.cell? ⟨rb, 12, none⟩ = some (.slice (some ⟨w.heap.size, 0, none⟩) (k + 1) (k + ex)) := HE.out.cell NW.out.r12
            have hexb : ((ex : Int) == 0) = false := by simp; omega
            have nc : ∀ i v, ([.string cl, .string nm, .int .i64 cf, .int .i64 rd, .int .i64 0, .pointer none] : List Value)[i]? = some v → wr.cell? ⟨w.heap.size, k * 6 + i, none⟩ = some v := fun i v hv => HE.out.cell (NW.out.new i v hv)
            have c0 : wr.cell? ⟨w.heap.size, k * 6, none⟩ = some (.string cl) := nc 0 _ rfl
            have c1 := nc 1 _ rfl
            have c2 := nc 2 _ rfl
            have c3 := nc 3 _ rfl
            have c4 := nc 4 _ rfl
            have c5 := nc 5 _ rfl
            have l0 := A5.out.l 0 _ rfl
            have l1 := A5.out.l 1 _ rfl
            have l2 := A5.out.l 2 _ rfl
            have l3 := A5.out.l 3 _ rfl
            have l4 := A5.out.l 4 _ rfl
            have l5 := A5.out.l 5 _ rfl
            clear nc
            have hkN : (k : Int) < (k : Int) + (ex : Int) := by omega
            have h0N : (0 : Int) < (k : Int) + (ex : Int) := by omega
            have h01 : (0 : Int) < (k : Int) + 1 := by omega
            go_wp2_with fail
            go_quiet (fail)
            go_wp2_with fail
            go_quiet (fail)
            go_wp2_with fail
            clear c0 c1 c2 c3 c4 c5 l0 l1 l2 l3 l4 l5 r0 r3 r5 r6 r13 r12
            go_loopg [21] (k + ex - (k + 1)) (fun g s21 wx => ∃ q : Nat, k + 1 ≤ q ∧ q ≤ k + ex ∧ g = k + ex - q ∧ s21 = .int .i64 q ∧ Ex W4 wx)
            case atStart => exact ⟨k + 1, by omega, by omega, rfl, by go_num, HE.out.drawn _⟩
            case round =>
              obtain ⟨q, hq1, hq2, hg3, rfl, hE3⟩ := hrel
              have HE3 : Hid (Ex W4 wr) := hE3
              have HG3 : Hid (gk = k + ex - q) := hg3
              clear hE3 hg3
              by_cases hq3 : q < k + ex
              · have hqi : (q : Int) < (k : Int) + (ex : Int) := by omega
                have zc : ∀ i v, zeroL[i]? = some v → wr.cell? ⟨w.heap.size, q * 6 + i, none⟩ = some v := fun i v hv => by
                  have hi : i < 6 := (List.getElem?_eq_some_iff.1 hv).1
                  refine HE3.out.cell (NW.out.keep _ _ (HZ.out q (by omega) hq3 i v hv) (fun e => by injection e with e1; omega) (fun _ _ => Or.inr ?_))
                  show k * 6 + 6 ≤ q * 6 + i
                  omega
                have c0 : wr.cell? ⟨w.heap.size, q * 6, none⟩ = some (.string ⟨#[]⟩) := zc 0 _ rfl
                have c1 := zc 1 _ rfl
                have c2 := zc 2 _ rfl
                have c3 := zc 3 _ rfl
                have c4 := zc 4 _ rfl
                have c5 := zc 5 _ rfl
                clear zc
                go_wp2_with fail
                go_roundg (k + ex - (q + 1))
                case measure => rw [HG3.out]; omega
                case rel => exact ⟨q + 1, by omega, by omega, rfl, by go_num, HE3.out⟩
              · have hqi : ¬ (q : Int) < (k : Int) + (ex : Int) := by omega
                go_wp2_with fail
                go_ret
                exact ⟨rfl, (A4.out.to HE3.out).below.frame _, (A4.out.to HE3.out).fz, (A4.out.to HE3.out).below.size⟩
end Go.Proofs.Ybulkfrvg
