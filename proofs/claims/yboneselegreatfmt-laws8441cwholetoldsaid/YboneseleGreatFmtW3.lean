import Derived.Test.YboneseleGreatFmtW2
namespace Go.Proofs.YboneseleGreatFmt
open Go.RowKit

theorem ret_iface {t : TypeId} {a b : Value} (h : a = b) : Ending.returned (.iface t a) = .returned (.iface t b) := by rw [h]

theorem cut_eq (s : ByteArray) (i j n : Nat) (h : j = i + n) : s.extract i j = mk ((rst s i).take n) := by
  apply mk_of
  rw [Lib.extract_data, h, show i + n - i = n by omega]; rfl

theorem index_next (s : ByteArray) (j : Nat) (h : j + 1 < s.size) (w : World) : (Instr.index 9 (.string s) (.int .i64 ((j : Int) + 1))).run Ybgs.prog w = .ok (.int .u8 (s[j + 1].toNat : Int)) w := by
  rw [run_index_string (t := 9) (s := s) (k := .i64) (h := Ybgs.underlying9), dif_pos ⟨by omega, by omega⟩]
  have e : ((j : Int) + 1).toNat = j + 1 := by omega
  simp only [e]

set_option maxRecDepth 100000 in
set_option maxHeartbeats 2000000 in
theorem name_any (w : World) (b : Nat) (s : ByteArray) (i d n : Nat) (hb : PB w b s i d (.pointer none)) (hi : i ≤ s.size) (hs : s.size ≤ maxLen)
    (hn : Pl.nameLen false (rst s i) = n) (hn0 : n ≠ 0) (h36 : Pl.headIs 36 ((rst s i).drop n) = false) :
   Calls Ybgs.prog 23 #[.pointer (some ⟨b, 0, none⟩)] w fun e w' => e = .returned (.iface 108 (.string (mk ((rst s i).take n)))) ∧ Keep b w w' ∧ PB w' b s (i + n) d (.pointer none) := by
  unfold maxLen at hs
  have c1 := hb.c1
  have HN : Hid (Pl.nameLen false (rst s i) = n) := hn
  have H36 : Hid (Pl.headIs 36 ((rst s i).drop n) = false) := h36
  clear hn h36
  go_enter Ybgs.func23, Ybgs.ntmps23
  go_wp2
  go_step3
  go_wp2
  go_step3
  go_wp2
  clear c1
  go_loopg [] (s.size - i) (fun g wr => ∃ k : Nat, i + k ≤ s.size ∧ g = s.size - (i + k) ∧ k + Pl.nameLen (decide (0 < k)) (rst s (i + k)) = n ∧ PB wr b s (i + k) d (.pointer none) ∧ Keep b w wr)
  case atStart => exact ⟨0, hi, rfl, by simpa using HN.out, hb, Keep.refl _ _⟩
  case round =>
    obtain ⟨k, hj, hg, hsk, hp, hk⟩ := hrel
    have c0 := hp.c0
    have c1 := hp.c1
    have f1 := hp.fz 1
    have SK : Hid (k + Pl.nameLen (decide (0 < k)) (rst s (i + k)) = n) := hsk
    have HG : Hid (gk = s.size - (i + k)) := hg
    clear hsk hg hb
    obtain ⟨j, hjk⟩ : ∃ j, j = i + k := ⟨_, rfl⟩
    rw [← hjk] at hj hp c1 SK HG
    have JK : Hid (j = i + k) := hjk
    have hij : i ≤ j := by omega
    clear hjk
    by_cases hlt : j < s.size
    · have RC : Hid (rst s j = s[j] :: rst s (j + 1)) := rst_cons s j hlt
      cases hc : Pl.isNm s[j] with
      | true =>
        have NX : Hid (k + 1 + Pl.nameLen (decide (0 < k + 1)) (rst s (j + 1)) = n) := by
          show _ = _
          rw [← SK.out, RC.out]; simp [Pl.nameLen, hc]; omega
        have HC : Hid (Pl.isNm s[j] = true) := hc
        clear hc
        go_wp2
        go_quiet (fail)
        go_wp2
        go_quiet (fail)
        go_wp2_with fail
        refine (isn_any _ _).mono ?_
        rintro e w' ⟨rfl, rfl⟩
        rw [HC.out]
        go_wp2_with fail
        go_roundg (s.size - (j + 1))
        case measure => rw [HG.out]; omega
        case rel => exact ⟨k + 1, by have := JK.out; omega, by rw [JK.out]; rfl, by rw [← Nat.add_assoc, ← JK.out]; exact NX.out, (hp.drewN _).set1 _ _ (by have := JK.out; omega), (hk.drewN _).setCell _ _⟩
      | false =>
        have HC : Hid (Pl.isNm s[j] = false) := hc
        clear hc
        cases h58 : ((s[j].toNat : Int) == 58) with
        | false =>
          have E0 : Hid (k = n) := by
            show _ = _
            rw [← SK.out, RC.out]
            have : (s[j] == 58) = false := by
              simp [← UInt8.toNat_inj] at h58 ⊢; omega
            simp [Pl.nameLen, HC.out, this]
          have h36 : ((s[j].toNat : Int) == 36) = false := by
            have := H36.out
            have e : (rst s i).drop n = rst s j := by unfold rst; rw [List.drop_drop, JK.out, E0.out]
            rw [e, RC.out] at this
            simp [Pl.headIs, ← UInt8.toNat_inj] at this ⊢
            omega
          have hne : ((j : Int) == (i : Int)) = false := by
            have := JK.out; have := E0.out
            exact beq_eq_false_iff_ne.2 (by omega)
          go_wp2
          go_quiet (fail)
          go_wp2
          go_quiet (fail)
          go_wp2_with fail
          refine (isn_any _ _).mono ?_
          rintro e w' ⟨rfl, rfl⟩
          rw [HC.out]
          go_wp2_with fail
          go_quiet (fail)
          go_wp2_with fail
          go_quiet (fail)
          go_wp2_with fail
          try rw [Exit.noGoto_ret]
          go_ret
          exact ⟨ret_iface (congrArg Value.string (cut_eq s i j n (by rw [JK.out, E0.out]))), (hk.drewN _).drewN _, by rw [← E0.out, ← JK.out]; exact (hp.drewN _).drewN _⟩
        | true =>
          have hu : s[j] = 58 := by
            simp [← UInt8.toNat_inj] at h58 ⊢; omega
          have hik : i < j := by
            rcases Nat.lt_or_ge i j with h | h
            · exact h
            · exfalso
              have h0 : k = 0 := by have := JK.out; omega
              have := SK.out
              rw [RC.out, h0] at this
              simp [Pl.nameLen, HC.out] at this
              exact hn0 this.symm
          have KP : Hid (decide (0 < k) = true) := by show _ = _; have := JK.out; simp; omega
          have h36 : ((s[j].toNat : Int) == 36) = false := by rw [hu]; rfl
          have hne : ((j : Int) == (i : Int)) = false := beq_eq_false_iff_ne.2 (by omega)
          have HU : Hid (s[j] = 58) := hu
          clear hu
          by_cases hl2 : j + 1 < s.size
          · have R2 : Hid (rst s (j + 1) = s[j + 1] :: rst s (j + 1 + 1)) := rst_cons s (j + 1) hl2
            cases hc2 : Pl.isNm s[j + 1] with
            | true =>
              have NX : Hid (k + 1 + Pl.nameLen (decide (0 < k + 1)) (rst s (j + 1)) = n) := by
                show _ = _
                rw [← SK.out, RC.out, KP.out, HU.out, R2.out]; simp [Pl.nameLen, Pl.headNm, hc2, show Pl.isNm 58 = false from rfl]; omega
              have HC2 : Hid (Pl.isNm s[j + 1] = true) := hc2
              have hix := index_next s j hl2
              clear hc2
              have hl3 : (j : Int) + 1 < (s.size : Int) := by omega
              go_wp2
              go_quiet (fail)
              go_wp2
              go_quiet (fail)
              go_wp2_with fail
              refine (isn_any _ _).mono ?_
              rintro e w' ⟨rfl, rfl⟩
              rw [HC.out]
              go_wp2_with fail
              go_quiet ((go_at_call 24; exact (isn_any _ _).mono fun e w' ⟨he, hw⟩ => ⟨he, _, hw⟩))
              rw [HC2.out]
              go_wp2_with fail
              go_roundg (s.size - (j + 1))
              case measure => rw [HG.out]; omega
              case rel => exact ⟨k + 1, by have := JK.out; omega, by rw [JK.out]; rfl, by rw [← Nat.add_assoc, ← JK.out]; exact NX.out, (hp.drewN _).set1 _ _ (by have := JK.out; omega), (hk.drewN _).setCell _ _⟩
            | false =>
              have E0 : Hid (k = n) := by
                show _ = _
                rw [← SK.out, RC.out, KP.out, HU.out, R2.out]; simp [Pl.nameLen, Pl.headNm, hc2, show Pl.isNm 58 = false from rfl]
              have HC2 : Hid (Pl.isNm s[j + 1] = false) := hc2
              have hix := index_next s j hl2
              clear hc2
              have hl3 : (j : Int) + 1 < (s.size : Int) := by omega
              go_wp2
              go_quiet (fail)
              go_wp2
              go_quiet (fail)
              go_wp2_with fail
              refine (isn_any _ _).mono ?_
              rintro e w' ⟨rfl, rfl⟩
              rw [HC.out]
              go_wp2_with fail
              go_quiet ((go_at_call 24; exact (isn_any _ _).mono fun e w' ⟨he, hw⟩ => ⟨he, _, hw⟩))
              rw [HC2.out]
              go_wp2_with fail
              go_quiet (fail)
              go_wp2_with fail
              try rw [Exit.noGoto_ret]
              go_ret
              exact ⟨ret_iface (congrArg Value.string (cut_eq s i j n (by rw [JK.out, E0.out]))), (hk.drewN _).drewN _, by rw [← E0.out, ← JK.out]; exact (hp.drewN _).drewN _⟩
          · have E0 : Hid (k = n) := by
              show _ = _
              rw [← SK.out, RC.out, KP.out, HU.out, rst_end s (j + 1) (by omega)]; simp [Pl.nameLen, Pl.headNm, show Pl.isNm 58 = false from rfl]
            have hl3 : decide ((j : Int) + 1 < (s.size : Int)) = false := by simp; omega
            go_wp2
            go_quiet (fail)
            go_wp2
            go_quiet (fail)
            go_wp2_with fail
            refine (isn_any _ _).mono ?_
            rintro e w' ⟨rfl, rfl⟩
            rw [HC.out]
            go_wp2_with fail
            go_quiet (fail)
            go_wp2_with fail
            go_quiet (fail)
            go_wp2_with fail
            try rw [Exit.noGoto_ret]
            go_ret
            exact ⟨ret_iface (congrArg Value.string (cut_eq s i j n (by rw [JK.out, E0.out]))), (hk.drewN _).drewN _, by rw [← E0.out, ← JK.out]; exact (hp.drewN _).drewN _⟩
    · have hd : decide ((j : Int) < (s.size : Int)) = false := by simp; omega
      have E0 : Hid (k = n) := by
        show _ = _
        rw [← SK.out, rst_end s j (by omega)]; simp [Pl.nameLen]
      have hne : ((j : Int) == (i : Int)) = false := by
        have := JK.out; have := E0.out
        exact beq_eq_false_iff_ne.2 (by omega)
      go_wp2
      go_quiet (fail)
      go_wp2
      go_quiet (fail)
      go_wp2_with fail
      try rw [Exit.noGoto_ret]
      go_ret
      exact ⟨ret_iface (congrArg Value.string (cut_eq s i j n (by rw [JK.out, E0.out]))), (hk.drewN _).drewN _, by rw [← E0.out, ← JK.out]; exact (hp.drewN _).drewN _⟩
end Go.Proofs.YboneseleGreatFmt
