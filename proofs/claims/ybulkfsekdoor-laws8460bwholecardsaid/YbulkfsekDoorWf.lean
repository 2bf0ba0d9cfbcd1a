import Derived.Test.YbulkfsekDoorWe
import Derived.Deep.RegionHeld3
import Derived.Deep.CutBlock
/-
  THE LAW WALKED.
-/
namespace Go.Proofs.YbulkfsekDoor
open Go.RowKit Go.WideMaps Go.Maps

theorem prS_size (p : Nat) : (Pl.prS p).size ≤ 1000 := by
  unfold Pl.prS
  (repeat' split) <;> decide
theorem msS_size (p : Nat) : (Pl.msS p).size ≤ 1000 := by
  unfold Pl.msS
  (repeat' split) <;> decide
set_option maxRecDepth 100000 in
set_option maxHeartbeats 2000000 in
theorem law_b (w : World) (sa : Option Addr) (sb so n cap : Nat) (fp fk fm : Nat → Nat) (hsa : 0 < n → sa = some ⟨sb, so, none⟩) (hsb0 : 0 < n → sb < w.heap.size) (hb8 : ∀ i, i < n → fp i < 256 ∧ fk i < 256 ∧ fm i < 256)
    (hst : ∀ i, i < n → w.cell? ⟨sb, so + i * 3, none⟩ = some (.int .u8 (fp i : Int)) ∧ w.cell? ⟨sb, so + i * 3 + 1, none⟩ = some (.int .u8 (fk i : Int)) ∧ w.cell? ⟨sb, so + i * 3 + 2, none⟩ = some (.int .u8 (fm i : Int))) (hn63 : n ≤ 9223372036854775807) :
    Calls Ybad.prog 4 #[.slice sa n cap] w (fun e w' => e = .returned (.bool true) ∧ Below w.heap.size w w') := by
  by_cases hbig : n > 4096
  · have hbi : (4096 : Int) < (n : Int) := by omega
    go_enter Ybad.func4, Ybad.ntmps4
    go_wp2_with fail
    go_ret
    exact ⟨rfl, Below.refl _ _⟩
  have hn : n ≤ 4096 := by omega
  have hnb : ¬ (4096 : Int) < (n : Int) := by omega
  have hmk : ∀ w : World, (Instr.makeSlice 26 (.int .i64 (n : Int)) (.int .i64 (n : Int))).run Ybad.prog w = .ok (.slice (some ⟨w.heap.size, 0, none⟩) n n) (w.alloc (.cells (madeCells zeroE.toArray (n * 4)) 33)) := fun w => mkE w n hn
  obtain ⟨ep, hep⟩ : ∃ ep : Nat → ByteArray, ep = fun i => Pl.prS (fp i) := ⟨_, rfl⟩
  obtain ⟨ek, hek⟩ : ∃ ek : Nat → ByteArray, ek = fun i => Pl.kdS (fk i) := ⟨_, rfl⟩
  obtain ⟨em, hem⟩ : ∃ em : Nat → ByteArray, em = fun i => Pl.msS (fm i) := ⟨_, rfl⟩
  have HEP : Hid (∀ i, Pl.prS (fp i) = ep i) := fun i => by rw [hep]
  have HEK : Hid (∀ i, Pl.kdS (fk i) = ek i) := fun i => by rw [hek]
  have HEM : Hid (∀ i, Pl.msS (fm i) = em i) := fun i => by rw [hem]
  have HST : Hid (∀ i, i < n → w.cell? ⟨sb, so + i * 3, none⟩ = some (.int .u8 (fp i : Int)) ∧ w.cell? ⟨sb, so + i * 3 + 1, none⟩ = some (.int .u8 (fk i : Int)) ∧ w.cell? ⟨sb, so + i * 3 + 2, none⟩ = some (.int .u8 (fm i : Int))) := hst
  have HB8 : Hid (∀ i, i < n → fp i < 256 ∧ fk i < 256 ∧ fm i < 256) := hb8
  have HSA : Hid (0 < n → sa = some ⟨sb, so, none⟩) := hsa
  clear hep hek hem hst hb8 hsa hbig
  go_enter Ybad.func4, Ybad.ntmps4
  go_wp2_with fail
  clear hmk
  go_loopg [24] n (fun g s24 wr => ∃ k : Nat, k ≤ n ∧ g = n - k ∧ s24 = .int .i64 k ∧ FW w n k ep ek em wr)
  case atStart => exact ⟨0, by omega, rfl, rfl, FW.start w n ep ek em⟩
  case round =>
    obtain ⟨k, hk, hg, rfl, hL⟩ := hrel
    have HL : Hid (FW w n k ep ek em wr) := hL
    have HG : Hid (gk = n - k) := hg
    clear hL hg
    have hbl := HL.out.lt
    by_cases hlt : k < n
    · have hki : (k : Int) < (n : Int) := by omega
      obtain rfl := HSA.out (by omega)
      have hsb := hsb0 (by omega)
      obtain ⟨s0, s1, s2⟩ := HST.out k hlt
      have c0 : wr.cell? ⟨sb, so + k * 3, none⟩ = some (.int .u8 (fp k : Int)) := (HL.out.below.cell hsb).trans s0
      have c1 : wr.cell? ⟨sb, so + k * 3 + 1, none⟩ = some (.int .u8 (fk k : Int)) := (HL.out.below.cell hsb).trans s1
      have c2 : wr.cell? ⟨sb, so + k * 3 + 2, none⟩ = some (.int .u8 (fm k : Int)) := (HL.out.below.cell hsb).trans s2
      clear s0 s1 s2
      go_upto_region 7 with (fail)
      obtain ⟨W, hW⟩ : ∃ W : World, W = wr.alloc (.cells #[.int .u8 (fp k : Int), .int .u8 (fk k : Int), .int .u8 (fm k : Int)] 28) := ⟨_, rfl⟩
      have b0 : W.cell? ⟨wr.heap.size, 0, none⟩ = some (.int .u8 (fp k : Int)) := by rw [hW]; exact at_new rfl rfl
      have b1 : W.cell? ⟨wr.heap.size, 1, none⟩ = some (.int .u8 (fk k : Int)) := by rw [hW]; exact at_new rfl rfl
      have b2 : W.cell? ⟨wr.heap.size, 2, none⟩ = some (.int .u8 (fm k : Int)) := by rw [hW]; exact at_new rfl rfl
      have HF : Hid (FW w n k ep ek em W) := by rw [hW]; exact HL.out.alloc _
      rw [← hW]
      clear hW c0 c1 c2
      have rw0 : ∀ i v, zeroE[i]? = some v → W.cell? ⟨w.heap.size, k * 4 + i, none⟩ = some v := fun i v hv => HF.out.row k hlt i v (by rw [if_neg (Nat.lt_irrefl k)]; exact hv)
      have z0 : W.cell? ⟨w.heap.size, k * 4, none⟩ = some (.string ⟨#[]⟩) := rw0 0 _ rfl
      have z1 := rw0 1 _ rfl
      have z2 := rw0 2 _ rfl
      have z3 := rw0 3 _ rfl
      have f0 := HF.out.fz (k * 4)
      have f1 := HF.out.fz (k * 4 + 1)
      have f2 := HF.out.fz (k * 4 + 2)
      have f3 := HF.out.fz (k * 4 + 3)
      clear rw0
      have hk0 : (0 : Int) ≤ (k : Int) := by omega
      have hne1 : wr.heap.size ≠ w.heap.size := by omega
      have hne2 : w.heap.size ≠ wr.heap.size := by omega
      go_region_held3 (fun w' => w'.cell? ⟨wr.heap.size, 0, none⟩ = some (.int .u8 (fp k : Int)) ∧ w'.cell? ⟨wr.heap.size, 1, none⟩ = some (.int .u8 (fk k : Int)) ∧ w'.cell? ⟨wr.heap.size, 2, none⟩ = some (.int .u8 (fm k : Int))) (go_keep)
        (first | (go_at_call 7; refine (pr_any (fp k) (HB8.out k hlt).1 _).mono ?_; rintro e w' ⟨rfl, rfl⟩) | (go_at_call 8; refine (kd_any (fk k) (HB8.out k hlt).2.1 _).mono ?_; rintro e w' ⟨rfl, rfl⟩) | (go_at_call 9; refine (ms_any (fm k) (HB8.out k hlt).2.2 _).mono ?_; rintro e w' ⟨rfl, rfl⟩))
      rw [HEP.out, HEK.out, HEM.out]
      obtain ⟨W2, hW2⟩ : ∃ W2 : World, W2 = (W.setCells w.heap.size (k * 4) (evL ep ek em k)).drewN 1 := ⟨_, rfl⟩
      have HF2 : Hid (FW w n (k + 1) ep ek em W2) := by rw [hW2]; exact (HF.out.step hlt).drawn 1
      change Exit.inBlock _ _ _ _ ((W.setCells w.heap.size (k * 4) (evL ep ek em k)).drewN 1)
      rw [← hW2]
      clear hW2
      go_wp2_with fail
      go_roundg (n - (k + 1))
      case measure => rw [HG.out]; omega
      case rel => exact ⟨k + 1, by omega, rfl, by go_num, HF2.out⟩
    · obtain rfl : n = k := by omega
      have hki : ¬ (n : Int) < (n : Int) := by omega
      go_wp2_with fail
      refine (clone_any wr w.heap.size n ep ek em hn HL.out.ev).mono ?_
      intro e W1 hC
      have hC2 := hC
      obtain ⟨kb, cap2, rfl, hkb, hkz, hcap, hkv, hB1⟩ := hC
      have HC : Hid (ClonePost wr n ep ek em (.returned (.slice (some ⟨kb, 0, none⟩) n cap2)) W1) := hC2
      have HKV : Hid (EV W1 kb n ep ek em) := hkv
      have HB1 : Hid (Below wr.heap.size wr W1) := hB1
      clear hC2 hkv hB1
      go_wp2_with fail
      have hw1 : w.heap.size < W1.heap.size := Nat.lt_of_lt_of_le hbl HB1.out.size
      refine (lam_any _ W1.heap.size w.heap.size n ep ek em hn (by simp; omega) (at_new rfl rfl) ((HL.out.ev.to HB1.out).to ((Below.refl _ _).alloc (Nat.le_refl _) _)) (fun i => ⟨by rw [← HEP.out]; exact prS_size _, by rw [← HEM.out]; exact msS_size _⟩)).mono ?_
      intro e W2 hLP
      obtain ⟨rfl, hLC⟩ := hLP
      have HR : Hid (RW w n w.heap.size kb W1.heap.size (W1.heap.size + 3) ep ek em W2) := rw_lam HL.out.below HL.out.ev ⟨_, HC.out, rfl⟩ 37 hLC
      clear hLC
      obtain ⟨rb, hrb⟩ : ∃ rb : Nat, rb = W1.heap.size := ⟨_, rfl⟩
      obtain ⟨cb, hcb⟩ : ∃ cb : Nat, cb = W1.heap.size + 3 := ⟨_, rfl⟩
      rw [← hcb, ← hrb] at HR
      rw [show (W1.alloc (.cells #[.slice (some ⟨w.heap.size, 0, none⟩) n n] 37)).heap.size + 2 = cb from by rw [hcb]; simp, ← hrb]
      have hmk2 : ∀ w : World, (Instr.makeSlice 38 (.int .i64 (n : Int)) (.int .i64 (n : Int))).run Ybad.prog w = .ok (.slice (some ⟨w.heap.size, 0, none⟩) n n) (w.alloc (.cells (madeCells #[.int .u64 0] n) 40)) := fun w => mkU w n hn
      clear hrb hcb
      go_wp2_with fail
      clear hmk2
      go_loopg [60] n (fun g s60 wx => ∃ i : Nat, i ≤ n ∧ g = n - i ∧ s60 = .int .i64 i ∧ WT W2 n i (Pl.ck ep ek em) wx)
      case atStart => exact ⟨0, by omega, rfl, rfl, WT.start W2 n _⟩
      case round =>
        obtain ⟨i, hi, hg2, rfl, hT⟩ := hrel
        have HT : Hid (WT W2 n i (Pl.ck ep ek em) wr) := hT
        have HG2 : Hid (gk = n - i) := hg2
        have RI : Hid (RW w n w.heap.size kb rb cb ep ek em wr) := HR.out.to hT.below
        clear hT hg2
        by_cases hli : i < n
        · have hii : (i : Int) < (n : Int) := by omega
          obtain ⟨e0, e1, e2, e3⟩ := RI.out.ev i hli
          go_upto_block 4 with fail
          go_cut [11] (fun s11 wy => s11 = .int .u64 (Pl.back (Pl.ck ep ek em) (fun j => decide (ep j = ep i)) i : Int) ∧ ∃ q, wy = wr.drewN q)
          case first =>
            go_wp2_with fail
            go_loopg [11, 12] i (fun g s11 s12 wx => ∃ jj q : Nat, jj ≤ i ∧ g = jj ∧ s11 = .int .u64 0 ∧ s12 = .int .i64 ((jj : Int) - 1) ∧ wx = wr.drewN q ∧ Pl.back (Pl.ck ep ek em) (fun j => decide (ep j = ep i)) i = Pl.back (Pl.ck ep ek em) (fun j => decide (ep j = ep i)) jj)
            case atStart => exact ⟨i, 0, by omega, rfl, rfl, rfl, rfl, rfl⟩
            case round =>
              obtain ⟨jj, q, hjj, hg3, rfl, rfl, rfl, hbk⟩ := hrel
              have HBK : Hid (Pl.back (Pl.ck ep ek em) (fun j => decide (ep j = ep i)) i = Pl.back (Pl.ck ep ek em) (fun j => decide (ep j = ep i)) jj) := hbk
              have HG3 : Hid (gk = jj) := hg3
              clear hbk hg3
              cases jj with
              | zero =>
                go_wp2_with fail
                go_meet
                exact ⟨by rw [HBK.out]; rfl, q, rfl⟩
              | succ t =>
                rw [show (((t + 1 : Nat) : Int) - 1) = (t : Int) by omega]
                have htn : t < n := by omega
                have hti : (t : Int) < (n : Int) := by omega
                have ht0 : (0 : Int) ≤ (t : Int) := by omega
                obtain ⟨t0, t1, t2, t3⟩ := RI.out.ev t htn
                have wt : wr.cell? ⟨W2.heap.size, t, none⟩ = some (.int .u64 (Pl.ck ep ek em t : Int)) := by rw [HT.out.cells t htn, if_pos (by omega)]
                by_cases heq : ep t = ep i
                · have hqb : ((ep t).toList == (ep i).toList) = true := by rw [str_eq]; simp [heq]
                  have HEQ : Hid (ep t = ep i) := heq
                  clear heq
                  go_wp2_with fail
                  go_quiet (fail)
                  go_wp2_with fail
                  go_meet
                  exact ⟨by rw [HBK.out, Pl.back, if_pos (by simpa using HEQ.out)], _, rfl⟩
                · have hqb : ((ep t).toList == (ep i).toList) = false := by rw [str_eq]; simp [heq]
                  have HEQ : Hid (¬ ep t = ep i) := heq
                  clear heq
                  go_wp2_with fail
                  go_quiet (fail)
                  go_wp2_with fail
                  go_roundg t
                  case measure => rw [HG3.out]; omega
                  case rel => exact ⟨t, _, by omega, rfl, rfl, by go_num, rfl, by rw [HBK.out, Pl.back, if_neg (by simpa using HEQ.out)]⟩
          case rest =>
            obtain ⟨rfl, q, rfl⟩ := hcut
            obtain ⟨p, hp⟩ : ∃ p : Nat, p = Pl.back (Pl.ck ep ek em) (fun j => decide (ep j = ep i)) i := ⟨_, rfl⟩
            obtain ⟨wz, hwz⟩ : ∃ wz : World, wz = wr.drewN q := ⟨_, rfl⟩
            have HP : Hid (p = Pl.back (Pl.ck ep ek em) (fun j => decide (ep j = ep i)) i) := hp
            have HU : Hid (WT W2 n i (Pl.ck ep ek em) wz) := by rw [hwz]; exact HT.out.drawn q
            have RJ : Hid (RW w n w.heap.size kb rb cb ep ek em wz) := HR.out.to HU.out.below
            rw [← hwz, ← hp]
            clear hwz hp e0 e1 e2 e3
            obtain ⟨e0, e1, e2, e3⟩ := RJ.out.ev i hli
            go_upto_if 89 with (fail)
            go_cut [13] (fun s13 wy => s13 = .int .u64 ((if ek i = Pl.reS then Pl.back (Pl.ck ep ek em) (fun j => decide (ek j = Pl.seS) && decide (em j = em i)) i else 0 : Nat) : Int) ∧ ∃ q, wy = wz.drewN q)
            case first =>
              by_cases hre : ek i = Pl.reS
              · have hreb : ((ek i).toList == [114, 101, 99, 101, 105, 118, 101]) = true := by rw [re_eq]; simp [hre]
                have HRE : Hid (ek i = Pl.reS) := hre
                clear hre
                rw [hreb]
                go_wp2_with fail
                go_loopg [13, 14] i (fun g s13 s14 wx => ∃ jj q : Nat, jj ≤ i ∧ g = jj ∧ s13 = .int .u64 0 ∧ s14 = .int .i64 ((jj : Int) - 1) ∧ wx = wz.drewN q ∧ Pl.back (Pl.ck ep ek em) (fun j => decide (ek j = Pl.seS) && decide (em j = em i)) i = Pl.back (Pl.ck ep ek em) (fun j => decide (ek j = Pl.seS) && decide (em j = em i)) jj)
                case atStart => exact ⟨i, 0, by omega, rfl, rfl, rfl, rfl, rfl⟩
                case round =>
                  obtain ⟨jj, q, hjj, hg3, rfl, rfl, rfl, hbk⟩ := hrel
                  have HBK : Hid (Pl.back (Pl.ck ep ek em) (fun j => decide (ek j = Pl.seS) && decide (em j = em i)) i = Pl.back (Pl.ck ep ek em) (fun j => decide (ek j = Pl.seS) && decide (em j = em i)) jj) := hbk
                  have HG3 : Hid (gk = jj) := hg3
                  clear hbk hg3
                  cases jj with
                  | zero =>
                    go_wp2_with fail
                    go_meet
                    exact ⟨by rw [if_pos HRE.out, HBK.out]; rfl, q, rfl⟩
                  | succ t =>
                    rw [show (((t + 1 : Nat) : Int) - 1) = (t : Int) by omega]
                    have htn : t < n := by omega
                    have hti : (t : Int) < (n : Int) := by omega
                    have ht0 : (0 : Int) ≤ (t : Int) := by omega
                    obtain ⟨t0, t1, t2, t3⟩ := RJ.out.ev t htn
                    have wt : wz.cell? ⟨W2.heap.size, t, none⟩ = some (.int .u64 (Pl.ck ep ek em t : Int)) := by rw [HU.out.cells t htn, if_pos (by omega)]
                    by_cases hse : ek t = Pl.seS
                    · have hseb : ((ek t).toList == [115, 101, 110, 100]) = true := by rw [se_eq]; simp [hse]
                      have HSE : Hid (ek t = Pl.seS) := hse
                      clear hse
                      by_cases heq : em t = em i
                      · have hqb : ((em t).toList == (em i).toList) = true := by rw [str_eq]; simp [heq]
                        have HEQ : Hid (em t = em i) := heq
                        clear heq
                        go_wp2_with fail
                        go_quiet (fail)
                        go_wp2_with fail
                        go_meet
                        exact ⟨by rw [if_pos HRE.out, HBK.out, Pl.back, if_pos (by simp [HSE.out, HEQ.out])], _, rfl⟩
                      · have hqb : ((em t).toList == (em i).toList) = false := by rw [str_eq]; simp [heq]
                        have HEQ : Hid (¬ em t = em i) := heq
                        clear heq
                        go_wp2_with fail
                        go_quiet (fail)
                        go_wp2_with fail
                        go_roundg t
                        case measure => rw [HG3.out]; omega
                        case rel => exact ⟨t, _, by omega, rfl, rfl, by go_num, rfl, by rw [HBK.out, Pl.back, if_neg (by simp [HEQ.out])]⟩
                    · have hseb : ((ek t).toList == [115, 101, 110, 100]) = false := by rw [se_eq]; simp [hse]
                      have HSE : Hid (¬ ek t = Pl.seS) := hse
                      clear hse
                      go_wp2_with fail
                      go_quiet (fail)
                      go_wp2_with fail
                      go_roundg t
                      case measure => rw [HG3.out]; omega
                      case rel => exact ⟨t, _, by omega, rfl, rfl, by go_num, rfl, by rw [HBK.out, Pl.back, if_neg (by simp [HSE.out])]⟩
              · have hreb : ((ek i).toList == [114, 101, 99, 101, 105, 118, 101]) = false := by rw [re_eq]; simp [hre]
                have HRE : Hid (¬ ek i = Pl.reS) := hre
                clear hre
                rw [hreb]
                go_wp2_with fail
                go_meet
                exact ⟨by rw [if_neg HRE.out]; rfl, 0, rfl⟩
            case rest =>
              obtain ⟨rfl, q2, rfl⟩ := hcut
              obtain ⟨c, hc⟩ : ∃ c : Nat, c = (if ek i = Pl.reS then Pl.back (Pl.ck ep ek em) (fun j => decide (ek j = Pl.seS) && decide (em j = em i)) i else 0 : Nat) := ⟨_, rfl⟩
              have HCK : Hid (Pl.ck ep ek em i = max p c + 1) := by rw [hc, HP.out]; exact Pl.ck_back ep ek em i
              have hlc : max p c + 1 ≤ i + 1 := by rw [← HCK.out]; exact Pl.ck_le ep ek em i
              have hpl : p ≤ i := by omega
              have hcl : c ≤ i := by omega
              have hcbz : cb < W2.heap.size := World.block_lt_of_cell? _ _ (HR.out.got i hli)
              have hcw : W2.heap.size < wz.heap.size := HU.out.lt
              rw [← hc]
              clear hc hlc
              by_cases hpc : p < c
              · have hpci : (p : Int) < (c : Int) := by omega
                have g0 : wz.cell? ⟨cb, i, none⟩ = some (.int .u64 ((c : Int) + 1)) := by
                  have := RJ.out.got i hli
                  rw [this, HCK.out]
                  congr 2
                  omega
                have v0 : wz.cell? ⟨W2.heap.size, i, none⟩ = some (.int .u64 ((if i < i then Pl.ck ep ek em i else 0 : Nat) : Int)) := HU.out.cells i hli
                have v1 : wz.frozen? ⟨W2.heap.size, i, none⟩ = false := HU.out.fz i
                go_wp2_with fail
                go_quiet (fail)
                go_wp2_with fail
                go_roundg (n - (i + 1))
                case measure => rw [HG2.out]; omega
                case rel => exact ⟨i + 1, by omega, rfl, by go_num, ((HU.out.drawn q2).step hli _ (by rw [HCK.out]; omega)).drawn _⟩
              · have hpci : ¬ (p : Int) < (c : Int) := by omega
                have g0 : wz.cell? ⟨cb, i, none⟩ = some (.int .u64 ((p : Int) + 1)) := by
                  have := RJ.out.got i hli
                  rw [this, HCK.out]
                  congr 2
                  omega
                have v0 : wz.cell? ⟨W2.heap.size, i, none⟩ = some (.int .u64 ((if i < i then Pl.ck ep ek em i else 0 : Nat) : Int)) := HU.out.cells i hli
                have v1 : wz.frozen? ⟨W2.heap.size, i, none⟩ = false := HU.out.fz i
                go_wp2_with fail
                go_quiet (fail)
                go_wp2_with fail
                go_roundg (n - (i + 1))
                case measure => rw [HG2.out]; omega
                case rel => exact ⟨i + 1, by omega, rfl, by go_num, ((HU.out.drawn q2).step hli _ (by rw [HCK.out]; omega)).drawn _⟩
        · obtain rfl : n = i := by omega
          have hii : ¬ (n : Int) < (n : Int) := by omega
          have r0 := RI.out.run
          go_wp2_with fail
          refine (equal_any wr w.heap.size kb n cap2 ep ek em hn RI.out.ev RI.out.kv).mono ?_
          rintro e w' ⟨rfl, q, rfl⟩
          go_wp2_with fail
          go_ret
          exact ⟨rfl, below_drawn RI.out.below q⟩
end Go.Proofs.YbulkfsekDoor
