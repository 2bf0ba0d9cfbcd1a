import Derived.Test.YboneseleGreatFmtWg4
import Derived.Deep.DeepCutAuto
namespace Go.Proofs.YboneseleGreatFmt
open Go.RowKit Go.WideMaps Go.Maps Go.Extern.Stop Go.Stop Go.Extern

set_option maxRecDepth 100000 in
set_option maxHeartbeats 8000000 in
theorem law_no (F : Interp) (w : World) (hF : F.answers w.tape) (a1 a2 : Option Addr) (l1 c1 l2 c2 : Nat) (st T S : Nat → Nat) (hst : ∀ j, st j < 256) (bt : Bool) (hl : l1 ≤ 65536) (hT : SlIn w a1 l1 T) (hS : SlIn w a2 l2 S) :
   Calls Ybgs.prog 3 #[.slice a1 l1 c1, .slice a2 l2 c2, .agg #[.int .u8 (st 0 : Int), .int .u8 (st 1 : Int), .int .u8 (st 2 : Int), .int .u8 (st 3 : Int), .int .u8 (st 4 : Int)], .bool true, .bool bt] w (LP w) := by
  have hmm := @run_makeMap Ybgs.prog
  have HFF : Hid (F.answers w.tape) := hF
  have HST : Hid (∀ j, st j < 256) := hst
  have HT : Hid (SlIn w a1 l1 T) := hT
  have HS : Hid (SlIn w a2 l2 S) := hS
  clear hF hst hT hS
  have hl' : (l1 : Int) ≤ 65536 := by omega
  go_enter Ybgs.func3, Ybgs.ntmps3
  go_upto_if 42 with (fail)
  obtain ⟨n, hn⟩ : ∃ n : Nat, n = max l1 1 := ⟨_, rfl⟩
  obtain ⟨wA, hwA⟩ : ∃ wA : World, wA = w.alloc (.cells #[.int .u8 (st 0 : Int), .int .u8 (st 1 : Int), .int .u8 (st 2 : Int), .int .u8 (st 3 : Int), .int .u8 (st 4 : Int)] 23) := ⟨_, rfl⟩
  go_cut [11] (fun s wx => s = .int .i64 (n : Int) ∧ wx = wA)
  case first =>
    by_cases h0 : l1 = 0
    · have h0b : ((l1 : Int) == 0) = true := by subst h0; rfl
      go_wp2_with fail
      go_meet
      exact ⟨by rw [hn, h0]; rfl, hwA.symm⟩
    · have h0b : ((l1 : Int) == 0) = false := by simp; omega
      go_wp2_with fail
      go_meet
      exact ⟨by rw [hn, Nat.max_eq_left (by omega)], hwA.symm⟩
  case rest =>
  obtain ⟨rfl, rfl⟩ := hcut
  subst hwA
  have hn1 : 1 ≤ n := by omega
  have hn2 : n ≤ 65536 := by omega
  have HN : Hid (n = max l1 1) := hn
  clear hn
  go_wp2_with fail
  go_loopg [15, 16, 17] 5 (fun g s15 s16 s17 wr => ∃ k : Nat, k ≤ 5 ∧ g = 5 - k ∧ s15 = .int .i64 k ∧ MS w.heap.size st false w k k k (setTo st 0 k) (setTo st 2 k) (setTo st 1 k) wr)
  case atStart =>
    exact ⟨0, by omega, rfl, rfl, ms_no w st _ _ rfl rfl⟩
  case round =>
    obtain ⟨k, hk, hg, rfl, hM⟩ := hrel
    have HM : Hid (MS w.heap.size st false w k k k (setTo st 0 k) (setTo st 2 k) (setTo st 1 k) wr) := hM
    have HG : Hid (gk = 5 - k) := hg
    clear hM hg
    by_cases hlt : k < 5
    · as_aux_lemma =>
      have hs := HM.out.sts k hlt
      have r5 : wr.cell? ⟨w.heap.size + 1 + 1 + 1, 12, none⟩ = some (.map (some (w.heap.size + 1))) := HM.out.r5
      have r6 : wr.cell? ⟨w.heap.size + 1 + 1 + 1, 13, none⟩ = some (.map (some (w.heap.size + 1 + 1))) := HM.out.r6
      have q1 := bit1 (st k) (HST.out k)
      have q2 := bit2 (st k) (HST.out k)
      have q4 := bit4 (st k) (HST.out k)
      have E0 : Hid (setTo st 0 (k + 1) = putS (st k / 2 ^ 0 % 2 == 1) (Pl.nmC k) (setTo st 0 k)) := setTo_succ st 0 k
      have E2 : Hid (setTo st 2 (k + 1) = putS (st k / 2 ^ 2 % 2 == 1) (Pl.nmC k) (setTo st 2 k)) := setTo_succ st 2 k
      generalize (st k / 2 ^ 0 % 2 == 1) = x0 at q1 E0
      generalize (st k / 2 ^ 1 % 2 == 1) = x1 at q2
      generalize (st k / 2 ^ 2 % 2 == 1) = x2 at q4 E2
      cases x0
      · skip
        cases x1
        · skip
          cases x2
          · skip
            rw [putS_false] at E0
            rw [putS_false] at E2
            go_wp2_with fail
            refine (cn_any k _).mono ?_
            rintro e w' ⟨rfl, rfl⟩
            go_wp2_with fail
            go_roundg (5 - (k + 1))
            case measure => rw [HG.out]; omega
            case rel => exact ⟨k + 1, by omega, rfl, by go_num, by rw [E0.out, E2.out]; exact ms_anyf (HM.out.mono (by omega) (by omega) (by omega))⟩
          · skip
            rw [putS_false] at E0
            go_wp2_with fail
            refine (cn_any k _).mono ?_
            rintro e w' ⟨rfl, rfl⟩
            go_wp2_with (first | (at_mapUpdate; refine wpList_neg_put _ rfl _ _ _ rfl (w.heap.size + 1 + 1) k (setTo st 2 k) (Pl.nmC k) rfl rfl rfl (HM.out.mn) (by omega) (nmC_len k) ?_))
            intro w2 hn2 hg2
            have M2 : Hid (MS w.heap.size st false w k (k + 1) k (setTo st 0 k) (putS true (Pl.nmC k) (setTo st 2 k)) (setTo st 1 k) w2) := HM.out.putn hn2 hg2
            clear hn2 hg2 r5 r6
            have r5 : w2.cell? ⟨w.heap.size + 1 + 1 + 1, 12, none⟩ = some (.map (some (w.heap.size + 1))) := M2.out.r5
            have r6 : w2.cell? ⟨w.heap.size + 1 + 1 + 1, 13, none⟩ = some (.map (some (w.heap.size + 1 + 1))) := M2.out.r6
            go_wp2_with fail
            go_roundg (5 - (k + 1))
            case measure => rw [HG.out]; omega
            case rel => exact ⟨k + 1, by omega, rfl, by go_num, by rw [E0.out, E2.out]; exact ms_anyf (M2.out.mono (by omega) (by omega) (by omega))⟩
        · skip
          cases x2
          · skip
            rw [putS_false] at E0
            rw [putS_false] at E2
            go_wp2_with fail
            refine (cn_any k _).mono ?_
            rintro e w' ⟨rfl, rfl⟩
            go_wp2_with fail
            go_roundg (5 - (k + 1))
            case measure => rw [HG.out]; omega
            case rel => exact ⟨k + 1, by omega, rfl, by go_num, by rw [E0.out, E2.out]; exact ms_anyf (HM.out.mono (by omega) (by omega) (by omega))⟩
          · skip
            rw [putS_false] at E0
            go_wp2_with fail
            refine (cn_any k _).mono ?_
            rintro e w' ⟨rfl, rfl⟩
            go_wp2_with (first | (at_mapUpdate; refine wpList_neg_put _ rfl _ _ _ rfl (w.heap.size + 1 + 1) k (setTo st 2 k) (Pl.nmC k) rfl rfl rfl (HM.out.mn) (by omega) (nmC_len k) ?_))
            intro w2 hn2 hg2
            have M2 : Hid (MS w.heap.size st false w k (k + 1) k (setTo st 0 k) (putS true (Pl.nmC k) (setTo st 2 k)) (setTo st 1 k) w2) := HM.out.putn hn2 hg2
            clear hn2 hg2 r5 r6
            have r5 : w2.cell? ⟨w.heap.size + 1 + 1 + 1, 12, none⟩ = some (.map (some (w.heap.size + 1))) := M2.out.r5
            have r6 : w2.cell? ⟨w.heap.size + 1 + 1 + 1, 13, none⟩ = some (.map (some (w.heap.size + 1 + 1))) := M2.out.r6
            go_wp2_with fail
            go_roundg (5 - (k + 1))
            case measure => rw [HG.out]; omega
            case rel => exact ⟨k + 1, by omega, rfl, by go_num, by rw [E0.out, E2.out]; exact ms_anyf (M2.out.mono (by omega) (by omega) (by omega))⟩
      · skip
        cases x1
        · skip
          cases x2
          · skip
            rw [putS_false] at E2
            go_wp2_with fail
            refine (cn_any k _).mono ?_
            rintro e w' ⟨rfl, rfl⟩
            go_wp2_with (first | (at_mapUpdate; refine wpList_cls_put _ rfl _ _ _ rfl (w.heap.size + 1) k (setTo st 0 k) (Pl.nmC k) rfl rfl rfl (HM.out.mc) (by omega) (nmC_len k) ?_))
            intro w2 hn2 hg2
            have M2 : Hid (MS w.heap.size st false w (k + 1) k k (putS true (Pl.nmC k) (setTo st 0 k)) (setTo st 2 k) (setTo st 1 k) w2) := HM.out.putc hn2 hg2
            clear hn2 hg2 r5 r6
            have r5 : w2.cell? ⟨w.heap.size + 1 + 1 + 1, 12, none⟩ = some (.map (some (w.heap.size + 1))) := M2.out.r5
            have r6 : w2.cell? ⟨w.heap.size + 1 + 1 + 1, 13, none⟩ = some (.map (some (w.heap.size + 1 + 1))) := M2.out.r6
            go_wp2_with fail
            go_roundg (5 - (k + 1))
            case measure => rw [HG.out]; omega
            case rel => exact ⟨k + 1, by omega, rfl, by go_num, by rw [E0.out, E2.out]; exact ms_anyf (M2.out.mono (by omega) (by omega) (by omega))⟩
          · skip
            go_wp2_with fail
            refine (cn_any k _).mono ?_
            rintro e w' ⟨rfl, rfl⟩
            go_wp2_with (first | (at_mapUpdate; refine wpList_cls_put _ rfl _ _ _ rfl (w.heap.size + 1) k (setTo st 0 k) (Pl.nmC k) rfl rfl rfl (HM.out.mc) (by omega) (nmC_len k) ?_))
            intro w2 hn2 hg2
            have M2 : Hid (MS w.heap.size st false w (k + 1) k k (putS true (Pl.nmC k) (setTo st 0 k)) (setTo st 2 k) (setTo st 1 k) w2) := HM.out.putc hn2 hg2
            clear hn2 hg2 r5 r6
            have r5 : w2.cell? ⟨w.heap.size + 1 + 1 + 1, 12, none⟩ = some (.map (some (w.heap.size + 1))) := M2.out.r5
            have r6 : w2.cell? ⟨w.heap.size + 1 + 1 + 1, 13, none⟩ = some (.map (some (w.heap.size + 1 + 1))) := M2.out.r6
            go_wp2_with (first | (at_mapUpdate; refine wpList_neg_put _ rfl _ _ _ rfl (w.heap.size + 1 + 1) k (setTo st 2 k) (Pl.nmC k) rfl rfl rfl (M2.out.mn) (by omega) (nmC_len k) ?_))
            intro w3 hn3 hg3
            have M3 : Hid (MS w.heap.size st false w (k + 1) (k + 1) k (putS true (Pl.nmC k) (setTo st 0 k)) (putS true (Pl.nmC k) (setTo st 2 k)) (setTo st 1 k) w3) := M2.out.putn hn3 hg3
            clear hn3 hg3 r5 r6
            have r5 : w3.cell? ⟨w.heap.size + 1 + 1 + 1, 12, none⟩ = some (.map (some (w.heap.size + 1))) := M3.out.r5
            have r6 : w3.cell? ⟨w.heap.size + 1 + 1 + 1, 13, none⟩ = some (.map (some (w.heap.size + 1 + 1))) := M3.out.r6
            go_wp2_with fail
            go_roundg (5 - (k + 1))
            case measure => rw [HG.out]; omega
            case rel => exact ⟨k + 1, by omega, rfl, by go_num, by rw [E0.out, E2.out]; exact ms_anyf (M3.out.mono (by omega) (by omega) (by omega))⟩
        · skip
          cases x2
          · skip
            rw [putS_false] at E2
            go_wp2_with fail
            refine (cn_any k _).mono ?_
            rintro e w' ⟨rfl, rfl⟩
            go_wp2_with (first | (at_mapUpdate; refine wpList_cls_put _ rfl _ _ _ rfl (w.heap.size + 1) k (setTo st 0 k) (Pl.nmC k) rfl rfl rfl (HM.out.mc) (by omega) (nmC_len k) ?_))
            intro w2 hn2 hg2
            have M2 : Hid (MS w.heap.size st false w (k + 1) k k (putS true (Pl.nmC k) (setTo st 0 k)) (setTo st 2 k) (setTo st 1 k) w2) := HM.out.putc hn2 hg2
            clear hn2 hg2 r5 r6
            have r5 : w2.cell? ⟨w.heap.size + 1 + 1 + 1, 12, none⟩ = some (.map (some (w.heap.size + 1))) := M2.out.r5
            have r6 : w2.cell? ⟨w.heap.size + 1 + 1 + 1, 13, none⟩ = some (.map (some (w.heap.size + 1 + 1))) := M2.out.r6
            go_wp2_with fail
            go_roundg (5 - (k + 1))
            case measure => rw [HG.out]; omega
            case rel => exact ⟨k + 1, by omega, rfl, by go_num, by rw [E0.out, E2.out]; exact ms_anyf (M2.out.mono (by omega) (by omega) (by omega))⟩
          · skip
            go_wp2_with fail
            refine (cn_any k _).mono ?_
            rintro e w' ⟨rfl, rfl⟩
            go_wp2_with (first | (at_mapUpdate; refine wpList_cls_put _ rfl _ _ _ rfl (w.heap.size + 1) k (setTo st 0 k) (Pl.nmC k) rfl rfl rfl (HM.out.mc) (by omega) (nmC_len k) ?_))
            intro w2 hn2 hg2
            have M2 : Hid (MS w.heap.size st false w (k + 1) k k (putS true (Pl.nmC k) (setTo st 0 k)) (setTo st 2 k) (setTo st 1 k) w2) := HM.out.putc hn2 hg2
            clear hn2 hg2 r5 r6
            have r5 : w2.cell? ⟨w.heap.size + 1 + 1 + 1, 12, none⟩ = some (.map (some (w.heap.size + 1))) := M2.out.r5
            have r6 : w2.cell? ⟨w.heap.size + 1 + 1 + 1, 13, none⟩ = some (.map (some (w.heap.size + 1 + 1))) := M2.out.r6
            go_wp2_with (first | (at_mapUpdate; refine wpList_neg_put _ rfl _ _ _ rfl (w.heap.size + 1 + 1) k (setTo st 2 k) (Pl.nmC k) rfl rfl rfl (M2.out.mn) (by omega) (nmC_len k) ?_))
            intro w3 hn3 hg3
            have M3 : Hid (MS w.heap.size st false w (k + 1) (k + 1) k (putS true (Pl.nmC k) (setTo st 0 k)) (putS true (Pl.nmC k) (setTo st 2 k)) (setTo st 1 k) w3) := M2.out.putn hn3 hg3
            clear hn3 hg3 r5 r6
            have r5 : w3.cell? ⟨w.heap.size + 1 + 1 + 1, 12, none⟩ = some (.map (some (w.heap.size + 1))) := M3.out.r5
            have r6 : w3.cell? ⟨w.heap.size + 1 + 1 + 1, 13, none⟩ = some (.map (some (w.heap.size + 1 + 1))) := M3.out.r6
            go_wp2_with fail
            go_roundg (5 - (k + 1))
            case measure => rw [HG.out]; omega
            case rel => exact ⟨k + 1, by omega, rfl, by go_num, by rw [E0.out, E2.out]; exact ms_anyf (M3.out.mono (by omega) (by omega) (by omega))⟩
    · obtain rfl : k = 5 := by omega
      go_wp2_with fail
      have hsz := HM.out.size
      have he := HM.out.env #[Value.pointer (some { block := w.heap.size + 1 + 1 + 1, off := 0 }), Value.string { data := #[] }, Value.slice none 0 0, Value.pointer none, Value.map none, Value.map none, Value.string { data := #[] }, Value.int IntKind.i64 0, Value.int IntKind.i64 0, Value.pointer none] 69 rfl rfl
      have hb2 := HM.out.below.alloc (Nat.le_trans (Nat.le_add_right _ _) hsz) (.cells #[Value.pointer (some { block := w.heap.size + 1 + 1 + 1, off := 0 }), Value.string { data := #[] }, Value.slice none 0 0, Value.pointer none, Value.map none, Value.map none, Value.string { data := #[] }, Value.int IntKind.i64 0, Value.int IntKind.i64 0, Value.pointer none] 69)
      have hst2 : ∀ j, j < 5 → (wr.alloc (.cells #[Value.pointer (some { block := w.heap.size + 1 + 1 + 1, off := 0 }), Value.string { data := #[] }, Value.slice none 0 0, Value.pointer none, Value.map none, Value.map none, Value.string { data := #[] }, Value.int IntKind.i64 0, Value.int IntKind.i64 0, Value.pointer none] 69)).cell? ⟨w.heap.size, j, none⟩ = some (.int .u8 (st j : Int)) := fun j hj => at_old _ (HM.out.sts j hj)
      obtain ⟨w2, hw2⟩ : ∃ w2 : World, w2 = wr.alloc (.cells #[Value.pointer (some { block := w.heap.size + 1 + 1 + 1, off := 0 }), Value.string { data := #[] }, Value.slice none 0 0, Value.pointer none, Value.map none, Value.map none, Value.string { data := #[] }, Value.int IntKind.i64 0, Value.int IntKind.i64 0, Value.pointer none] 69) := ⟨_, rfl⟩
      obtain ⟨eb, heb⟩ : ∃ eb : Nat, eb = wr.heap.size := ⟨_, rfl⟩
      rw [← hw2, ← heb]
      rw [← hw2] at he hb2 hst2
      rw [← heb] at he
      have HE : Hid (EnvAt eb (w.heap.size + 3) (w.heap.size + 1) (w.heap.size + 2) (if false then some (w.heap.size + 5, w.heap.size + 4) else none) (setTo st 0 5) (setTo st 2 5) (setTo st 1 5) w2) := he
      have HB : Hid (Below w.heap.size w w2) := hb2
      have HST2 : Hid (∀ j, j < 5 → w2.cell? ⟨w.heap.size, j, none⟩ = some (.int .u8 (st j : Int))) := hst2
      clear he hb2 hst2 hw2 heb HM HG hsz hlt hk
      go_loopg [19, 20, 21, 22, 23, 24, 25, 26, 27, 28, 29, 30] n (fun g s19 s20 s21 s22 s23 s24 s25 s26 s27 s28 s29 s30 wx => ∃ k : Nat, k ≤ n ∧ g = n - k ∧ s22 = .int .i64 k ∧ Buf w2 s19 (Pl.txt S T k) wx ∧ s20 = .bool (Pl.ag (vkS st false) S T k).1 ∧ s21 = .bool (Pl.ag (vkS st false) S T k).2)
      case atStart =>
        exact ⟨0, by omega, rfl, rfl, Buf.start _, rfl, rfl⟩
      case round =>
        obtain ⟨k, hk, hg, rfl, hB, rfl, rfl⟩ := hrel
        have HK : Hid (Buf w2 u19 (Pl.txt S T k) wr) := hB
        have HG : Hid (gk = n - k) := hg
        have hlen := Pl.txt_len S T k
        have hTk : T k < 256 := HT.out.1 k
        clear hB hg
        by_cases hlt : k < n
        · have hkn : (k : Int) < (n : Int) := by omega
          have AG1 : Hid ((Pl.ag (vkS st false) S T (k + 1)).1 = (Pl.midA S k (Pl.ag (vkS st false) S T k)).1) := rfl
          have AG2 : Hid ((Pl.ag (vkS st false) S T (k + 1)).2 = ((Pl.midA S k (Pl.ag (vkS st false) S T k)).2 && Pl.val (vkS st false) (T k))) := rfl
          have TX : Hid (Pl.txt S T (k + 1) = Pl.txt S T k ++ Pl.sepT S k ++ Pl.tx (T k)) := rfl
          go_upto_if 103 with (fail)
          go_cut [23] (fun s wy => s = .int .u8 (T k : Int) ∧ wy = wr)
          case first => as_aux_lemma =>
            by_cases hkl : k < l1
            · have hki : (k : Int) < (l1 : Int) := by omega
              obtain ⟨cb, off, ea, hcb, hc⟩ := HT.out.2.2.resolve_left (by omega)
              have hcc := HK.out.cell ((HB.out.cell (p := ⟨cb, off + k, none⟩) hcb).trans (hc k hkl))
              subst ea
              clear hc
              go_wp2_with fail
              go_meet
              exact ⟨rfl, rfl⟩
            · have hki : ¬ (k : Int) < (l1 : Int) := by omega
              have e0 : T k = 0 := HT.out.2.1 k (by omega)
              have E0 : Hid (T k = 0) := e0
              clear e0
              go_wp2_with fail
              go_meet
              exact ⟨by rw [E0.out]; rfl, rfl⟩
          case rest =>
          obtain ⟨rfl, rfl⟩ := hcut
          go_upto_if 109 with (fail)
          go_cut [19, 20, 21, 24, 25] (fun s19 s20 s21 s24 s25 wy => Buf w2 s19 (Pl.txt S T k ++ Pl.sepT S k) wy ∧ s20 = .bool (Pl.midA S k (Pl.ag (vkS st false) S T k)).1 ∧ s21 = .bool (Pl.midA S k (Pl.ag (vkS st false) S T k)).2)
          case first => as_aux_lemma =>
            by_cases hk0 : k = 0
            · have HK0 : Hid (k = 0) := hk0
              have hki : ¬ (0 : Int) < (k : Int) := by omega
              clear hk0
              go_wp2_with fail
              go_meet
              exact ⟨buf_more HK.out (by simp [Pl.sepT, HK0.out]), by rw [Pl.midA, if_pos HK0.out], by rw [Pl.midA, if_pos HK0.out]⟩
            · have HK0 : Hid (¬ k = 0) := hk0
              have hki : (0 : Int) < (k : Int) := by omega
              obtain ⟨s, hs⟩ : ∃ s : Nat, s = S (k - 1) := ⟨_, rfl⟩
              have hs256 : s < 256 := by rw [hs]; exact HS.out.1 _
              have SP : Hid (Pl.sepT S k = Pl.sp s) := by show _ = _; rw [Pl.sepT, if_neg hk0, hs]
              have MA : Hid (∀ p, Pl.midA S k p = if 2 ≤ s % 4 then (p.1 || p.2, true) else p) := by intro p; rw [Pl.midA, if_neg hk0, hs]
              have HSS : Hid (s = S (k - 1)) := hs
              clear hs
              go_upto_if 114 with (fail)
              go_cut [24] (fun s24 wy => s24 = .int .u8 (s : Int) ∧ wy = wc)
              case first => as_aux_lemma =>
                by_cases hkl : k - 1 < l2
                · have hki : (k : Int) - 1 < (l2 : Int) := by omega
                  obtain ⟨cb, off, ea, hcb, hc⟩ := HS.out.2.2.resolve_left (by omega)
                  have hcc := HK.out.cell ((HB.out.cell (p := ⟨cb, off + (k - 1), none⟩) hcb).trans (hc (k - 1) hkl))
                  rw [← HSS.out] at hcc
                  have hcc2 := hcc
                  rw [show k - 1 = ((k : Int) - 1).toNat by omega] at hcc2
                  subst ea
                  clear hc
                  go_wp2_with fail
                  go_meet
                  exact ⟨rfl, rfl⟩
                · have hki : ¬ (k : Int) - 1 < (l2 : Int) := by omega
                  have E0 : Hid (s = 0) := by rw [HSS.out]; exact HS.out.2.1 _ (by omega)
                  go_wp2_with fail
                  go_meet
                  exact ⟨by rw [E0.out]; rfl, rfl⟩
              case rest =>
              obtain ⟨rfl, rfl⟩ := hcut
              have q16 := bit16 s hs256
              have q32 := bit32 s hs256
              go_upto_if 122 with (fail)
              go_cut [19] (fun s19 wy => Buf w2 s19 (Pl.txt S T k ++ y16 s) wy)
              case first => as_aux_lemma =>
                by_cases h16 : s / 16 % 2 = 1
                · rw [decide_eq_true h16] at q16
                  have H16 : Hid (s / 16 % 2 = 1) := h16
                  clear h16
                  go_wp2_with (first | (at_builtin; refine wpList_buf_byte _ rfl (.tmp 123) (.tmp 124) rfl w2 _ _ 32 32 rfl rfl rfl HK.out (by omega) ?_))
                  intro v' w' hB
                  have HBv : Hid (Buf w2 v' _ w') := hB
                  clear hB
                  go_wp2_with fail
                  go_meet
                  exact buf_more HBv.out (by rw [y16, if_pos H16.out])
                · rw [decide_eq_false h16] at q16
                  have H16 : Hid (¬ s / 16 % 2 = 1) := h16
                  clear h16
                  go_wp2_with fail
                  go_meet
                  exact buf_more HK.out (by rw [y16, if_neg H16.out, List.append_nil])
              case rest =>
              have HKa : Hid (Buf w2 u19 (Pl.txt S T k ++ y16 s) wc) := hcut
              have l16 := y16_len s
              clear hcut q16 HK
              go_wp2_with fail
              refine (op_any (s % 4) (by omega) _).mono ?_
              rintro e w' ⟨rfl, rfl⟩
              have lop := opC_len (s % 4)
              go_wp2_with (first | (at_builtin; refine wpList_buf_str _ rfl (.tmp 128) (.tmp 130) rfl w2 _ _ _ rfl rfl HKa.out (by simp only [List.length_append]; omega) ?_))
              intro v' w' hB
              have HKb : Hid (Buf w2 v' (Pl.txt S T k ++ y16 s ++ Pl.opC (s % 4)) w') := buf_more hB (by simp only [List.append_assoc])
              clear hB HKa
              have l32 := y32_len s
              go_upto_if 134 with (fail)
              go_cut [19] (fun s19 wy => Buf w2 s19 (Pl.txt S T k ++ y16 s ++ Pl.opC (s % 4) ++ y32 s) wy)
              case first => as_aux_lemma =>
                by_cases h32 : s / 32 % 2 = 1
                · rw [decide_eq_true h32] at q32
                  have H32 : Hid (s / 32 % 2 = 1) := h32
                  clear h32
                  go_wp2_with (first | (at_builtin; refine wpList_buf_byte _ rfl (.tmp 135) (.tmp 136) rfl w2 _ _ 9 9 rfl rfl rfl HKb.out (by simp only [List.length_append]; omega) ?_))
                  intro v' w' hB
                  have HBv : Hid (Buf w2 v' _ w') := hB
                  clear hB
                  go_wp2_with fail
                  go_meet
                  exact buf_more HBv.out (by rw [y32, if_pos H32.out]; simp only [List.append_assoc])
                · rw [decide_eq_false h32] at q32
                  have H32 : Hid (¬ s / 32 % 2 = 1) := h32
                  clear h32
                  go_wp2_with fail
                  go_meet
                  exact buf_more HKb.out (by rw [y32, if_neg H32.out, List.append_nil])
              case rest =>
              have HKc : Hid (Buf w2 u19 (Pl.txt S T k ++ y16 s ++ Pl.opC (s % 4) ++ y32 s) wc) := hcut
              clear hcut q32 HKb
              by_cases h2 : 2 ≤ s % 4
              · have H2 : Hid (2 ≤ s % 4) := h2
                have h2i : (2 : Int) ≤ (s : Int) % 4 := by omega
                clear h2
                cases hr : (Pl.ag (vkS st false) S T k).1
                · have HR : Hid ((Pl.ag (vkS st false) S T k).1 = false) := hr
                  clear hr
                  go_wp2_with fail
                  go_meet
                  exact ⟨buf_more HKc.out (by rw [SP.out, sp_y]; simp [List.append_assoc]), by rw [MA.out, if_pos H2.out, HR.out, Bool.false_or], by rw [MA.out, if_pos H2.out]⟩
                · have HR : Hid ((Pl.ag (vkS st false) S T k).1 = true) := hr
                  clear hr
                  go_wp2_with fail
                  go_meet
                  exact ⟨buf_more HKc.out (by rw [SP.out, sp_y]; simp [List.append_assoc]), by rw [MA.out, if_pos H2.out, HR.out, Bool.true_or], by rw [MA.out, if_pos H2.out]⟩
              · have H2 : Hid (¬ 2 ≤ s % 4) := h2
                have h2i : ¬ (2 : Int) ≤ (s : Int) % 4 := by omega
                clear h2
                go_wp2_with fail
                go_meet
                exact ⟨buf_more HKc.out (by rw [SP.out, sp_y]; simp [List.append_assoc]), by rw [MA.out, if_neg H2.out], by rw [MA.out, if_neg H2.out]⟩
          case rest =>
          obtain ⟨hB, rfl, rfl⟩ := hcut
          have lsp : (Pl.sepT S k).length ≤ 4 := by unfold Pl.sepT; split; exact Nat.zero_le _; exact Pl.sp_len _
          obtain ⟨B0, hB0⟩ : ∃ B0 : List UInt8, B0 = Pl.txt S T k ++ Pl.sepT S k := ⟨_, rfl⟩
          have hlB : B0.length ≤ 19 * k + 4 := by rw [hB0, List.length_append]; omega
          rw [← hB0] at hB
          have HK2 : Hid (Buf w2 u19 B0 wc) := hB
          have HB0 : Hid (B0 = Pl.txt S T k ++ Pl.sepT S k) := hB0
          obtain ⟨kk, hkk⟩ : ∃ kk : Nat, kk = T k % 5 := ⟨_, rfl⟩
          obtain ⟨bg, hbg⟩ : ∃ bg : Nat, bg = T k / 5 % 3 := ⟨_, rfl⟩
          have hkk5 : kk < 5 := by omega
          have hbg3 : bg < 3 := by omega
          have ekk : ((T k : Nat) : Int) % 5 = (kk : Int) := by omega
          have ebg : ((T k : Nat) : Int) / 5 % 3 = (bg : Int) := by omega
          have HKK : Hid (kk = T k % 5) := hkk
          have HBG : Hid (bg = T k / 5 % 3) := hbg
          clear hB hB0 lsp HK hkk hbg
          go_wp2_with fail
          clear ekk ebg
          go_loopg [19, 28] 3 (fun g s19 s28 wy => ∃ j : Nat, j ≤ bg ∧ g = 3 - j ∧ s28 = .int .i64 j ∧ Buf w2 s19 (B0 ++ List.replicate j 33) wy)
          case atStart => exact ⟨0, by omega, rfl, rfl, buf_more HK2.out (by simp)⟩
          case round =>
            obtain ⟨j, hj, hg3, rfl, hB⟩ := hrel
            have HJ : Hid (Buf w2 u19 (B0 ++ List.replicate j 33) wr) := hB
            have HG3 : Hid (gk = 3 - j) := hg3
            clear hB hg3
            have hlr : (List.replicate j (33 : UInt8)).length = j := List.length_replicate
            by_cases hjl : j < bg
            · have hji : (j : Int) < (bg : Int) := by omega
              go_wp2_with (first | (at_builtin; refine wpList_buf_byte _ rfl (.tmp 156) (.tmp 157) rfl w2 _ _ 33 33 rfl rfl rfl HJ.out (by rw [List.length_append]; omega) ?_))
              intro v' w' hB
              have HBv : Hid (Buf w2 v' _ w') := hB
              clear hB
              go_wp2_with fail
              go_roundg (3 - (j + 1))
              case measure => rw [HG3.out]; omega
              case rel => exact ⟨j + 1, by omega, rfl, by go_num, buf_more HBv.out (by rw [List.replicate_succ'])⟩
            · have hji : ¬ (j : Int) < (bg : Int) := by omega
              obtain rfl : j = bg := by omega
              have lpre := yPre_len (T k)
              go_upto_if 162 with (fail)
              go_cut [19] (fun s19 wy => Buf w2 s19 (B0 ++ List.replicate j 33 ++ yPre (T k)) wy)
              case first => as_aux_lemma =>
                by_cases hp : T k / 15 % 2 = 1
                · have hpb : (((T k : Nat) : Int) / 15 % 2 == 1) = true := by rw [beq_iff_eq]; omega
                  have HP : Hid (T k / 15 % 2 = 1) := hp
                  clear hp
                  go_wp2_with (first | (at_builtin; refine wpList_buf_str _ rfl (.tmp 163) (.const (.string ⟨#[100, 101, 102, 97, 117, 108, 116, 58]⟩)) rfl w2 _ _ Pl.pre rfl rfl HJ.out (by rw [List.length_append, show Pl.pre.length = 8 from rfl]; omega) ?_))
                  intro v' w' hB
                  have HBv : Hid (Buf w2 v' _ w') := hB
                  clear hB
                  go_wp2_with fail
                  go_meet
                  exact buf_more HBv.out (by rw [yPre, if_pos HP.out]; simp only [List.append_assoc])
                · have hpb : (((T k : Nat) : Int) / 15 % 2 == 1) = false := by rw [beq_eq_false_iff_ne]; omega
                  have HP : Hid (¬ T k / 15 % 2 = 1) := hp
                  clear hp
                  go_wp2_with fail
                  go_meet
                  exact buf_more HJ.out (by rw [yPre, if_neg HP.out, List.append_nil])
              case rest =>
              have HKd : Hid (Buf w2 u19 (B0 ++ List.replicate j 33 ++ yPre (T k)) wc) := hcut
              clear hcut HJ
              have lnm := nmC_len5 kk
              go_wp2_with fail
              refine (cn_any kk _).mono ?_
              rintro e w' ⟨rfl, rfl⟩
              go_wp2_with (first | (at_builtin; refine wpList_buf_str _ rfl (.tmp 165) (.tmp 167) rfl w2 _ _ _ rfl rfl HKd.out (by simp only [List.length_append]; omega) ?_))
              intro v' w' hB
              have HKe : Hid (Buf w2 v' (B0 ++ List.replicate j 33 ++ yPre (T k) ++ Pl.nmC kk) w') := buf_more hB (by simp only [List.append_assoc])
              clear hB HKd
              have hcs : w'.cell? ⟨w.heap.size, kk, none⟩ = some (.int .u8 (st kk : Int)) := HKe.out.cell (HST2.out kk hkk5)
              have hst256 : st kk < 256 := HST.out kk
              go_upto_region 55 with (fail)
              go_cut [30] (fun s30 wy => s30 = .bool (vkS st false kk) ∧ wy = w')
              case first => as_aux_lemma =>
                have q1 := bit1 (st kk) hst256
                have q2 := bit2 (st kk) hst256
                have q4 := bit4e (st kk) hst256
                have VK : Hid (vkS st false kk = (!(st kk / 2 ^ 2 % 2 == 1) && ((st kk / 2 ^ 0 % 2 == 1) || (false && (st kk / 2 ^ 1 % 2 == 1))))) := rfl
                generalize (st kk / 2 ^ 0 % 2 == 1) = x0 at q1 VK
                generalize (st kk / 2 ^ 1 % 2 == 1) = x1 at q2 VK
                generalize (st kk / 2 ^ 2 % 2 == 1) = x2 at q4 VK
                cases x2
                · cases x0
                  · cases x1
                    · go_wp2_with fail
                      go_meet
                      exact ⟨by rw [VK.out]; rfl, rfl⟩
                    · go_wp2_with fail
                      go_meet
                      exact ⟨by rw [VK.out]; rfl, rfl⟩
                  · go_wp2_with fail
                    go_meet
                    exact ⟨by rw [VK.out]; rfl, rfl⟩
                · go_wp2_with fail
                  go_meet
                  exact ⟨by rw [VK.out]; rfl, rfl⟩
              case rest =>
              obtain ⟨rfl, rfl⟩ := hcut
              go_upto_if 191 with (fail)
              go_cut [30] (fun s30 wy => s30 = .bool (Pl.val (vkS st false) (T k)) ∧ wy = wc)
              case first => as_aux_lemma =>
                by_cases hb2 : j % 2 = 1
                · have hbb : ((j : Int) % 2 == 1) = true := by rw [beq_iff_eq]; omega
                  have VL : Hid (Pl.val (vkS st false) (T k) = !vkS st false kk) := by show _ = _; rw [Pl.val, ← HBG.out, ← HKK.out, if_pos hb2]
                  clear hb2
                  go_wp2_with fail
                  go_meet
                  exact ⟨by rw [VL.out], rfl⟩
                · have hbb : ((j : Int) % 2 == 1) = false := by rw [beq_eq_false_iff_ne]; omega
                  have VL : Hid (Pl.val (vkS st false) (T k) = vkS st false kk) := by show _ = _; rw [Pl.val, ← HBG.out, ← HKK.out, if_neg hb2]
                  clear hb2
                  go_wp2_with fail
                  go_meet
                  exact ⟨by rw [VL.out], rfl⟩
              case rest =>
              obtain ⟨rfl, rfl⟩ := hcut
              have FIN : Hid (B0 ++ List.replicate j 33 ++ yPre (T k) ++ Pl.nmC kk = Pl.txt S T (k + 1)) := by
                show _ = _
                rw [TX.out, tx_y, ← HBG.out, ← HKK.out, ← HB0.out]; simp only [List.append_assoc]
              cases hm : (Pl.midA S k (Pl.ag (vkS st false) S T k)).2
              · have HMA : Hid ((Pl.midA S k (Pl.ag (vkS st false) S T k)).2 = false) := hm
                clear hm
                go_wp2_with fail
                go_roundg (n - (k + 1))
                case measure => rw [HG.out]; omega
                case rel => exact ⟨k + 1, by omega, rfl, by go_num, buf_more HKe.out FIN.out, by rw [AG1.out], by rw [AG2.out, HMA.out]; rfl⟩
              · have HMA : Hid ((Pl.midA S k (Pl.ag (vkS st false) S T k)).2 = true) := hm
                clear hm
                go_wp2_with fail
                go_roundg (n - (k + 1))
                case measure => rw [HG.out]; omega
                case rel => exact ⟨k + 1, by omega, rfl, by go_num, buf_more HKe.out FIN.out, by rw [AG1.out], by rw [AG2.out, HMA.out]; rfl⟩
        · obtain rfl : k = n := by omega
          have hki : ¬ (k : Int) < (k : Int) := by omega
          obtain ⟨ao, cc, rfl⟩ := buf_slice HK.out
          have hcv : (convert 22 9 (.slice ao (Pl.txt S T k).length cc)).run Ybgs.prog wr = .ok (.string (mk (Pl.txt S T k))) wr := buf_str HK.out
          have HBW : Hid (Below w.heap.size w wr) := HB.out.trans (HK.out.below.mono HB.out.size)
          obtain ⟨bv, hbv⟩ : ∃ bv : Bool, bv = bvE st false S T k := ⟨_, rfl⟩
          have HBVE : Hid (bv = bvE st false S T k) := hbv
          clear hbv
          go_upto_region 59 with (fail)
          go_cut [20] (fun s wy => s = .bool bv ∧ wy = wr)
          case first => as_aux_lemma =>
            cases hr : (Pl.ag (vkS st false) S T k).1
            · have HR : Hid ((Pl.ag (vkS st false) S T k).1 = false) := hr
              clear hr
              go_wp2_with fail
              go_meet
              exact ⟨by rw [HBVE.out, bvE, HR.out, Bool.false_or], rfl⟩
            · have HR : Hid ((Pl.ag (vkS st false) S T k).1 = true) := hr
              clear hr
              go_wp2_with fail
              go_meet
              exact ⟨by rw [HBVE.out, bvE, HR.out, Bool.true_or], rfl⟩
          case rest =>
          obtain ⟨rfl, rfl⟩ := hcut
          have hsl : (mk (Pl.txt S T k)).size = (Pl.txt S T k).length := rfl
          cases bt
          · go_wp2_with fail
            refine (ev_good st false w.heap.size eb S T k hn1 hn2 w2 _ HE.out HK.out.below).mono ?_
            rw [← HBVE.out]
            rintro e w3 ⟨rfl, hb3⟩
            have HB3 : Hid (Below w.heap.size w w3) := HBW.out.trans (hb3.mono HBW.out.size)
            clear hb3
            cases bv
            · go_wp2_with fail
              go_ret
              exact ⟨rfl, HB3.out⟩
            · go_wp2_with fail
              go_ret
              exact ⟨rfl, HB3.out⟩
          · go_wp2_with fail
            refine (ev_bad F st false w.heap.size eb S T k hn1 hn2 _ (by rw [HBW.out.tape]; exact HFF.out)).mono ?_
            rintro e w3 ⟨xb, m, rfl, hb3, hc3⟩
            have HB3 : Hid (Below w.heap.size w w3) := HBW.out.trans (hb3.mono HBW.out.size)
            have hta : ∀ (a : Addr) (w : World), (Instr.typeAssert (.iface 75 (.pointer (some a))) 72 75 true).run Ybgs.prog w = .ok (.tuple #[.pointer (some a), .bool true]) w := by intro a w; kernel_rfl
            have hc0 : w3.cell? ⟨xb, 0, none⟩ = some (.int .i64 ((Pl.txt S T k).length : Int)) := by simp [World.cell?, hc3]
            clear hb3 hc3
            go_wp2_with fail
            go_ret
            exact ⟨rfl, HB3.out⟩

end Go.Proofs.YboneseleGreatFmt
