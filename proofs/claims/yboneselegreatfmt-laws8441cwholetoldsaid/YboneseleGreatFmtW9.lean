import Derived.Test.YboneseleGreatFmtW8
import Derived.Recover
namespace Go.Proofs.YboneseleGreatFmt
open Go.RowKit

set_option maxHeartbeats 400000 in
theorem dec_any (b q d : Nat) (hd : d ≤ 1000) (u : FrameMode) (w : World) (hq : w.cell? ⟨q, 0, none⟩ = some (.pointer (some ⟨b, 0, none⟩))) (hc : w.cell? ⟨b, 2, none⟩ = some (.int .i64 ((d + 1 : Nat) : Int))) (hz : w.frozen? ⟨b, 2, none⟩ = false) :
    CallsD Ybgs.prog 21 #[.pointer (some ⟨q, 0, none⟩)] u w fun e u' w' => u' = u ∧ (e = .returned (.tuple #[]) ∧ w' = w.setCell ⟨b, 2, none⟩ (.int .i64 (d : Int))) := by
  go_enter_d Ybgs.func21, Ybgs.ntmps21
  go_wp2
  go_end0
  exact ⟨rfl, rfl⟩

/-- behind the deferred call -/
theorem got_close {eb b : Nat} {E : World → Prop} {s : ByteArray} {i d j : Nat} {bv : Bool} {rest : List UInt8} {w W : World} {v : Value} {F : List Nat} (hbs : b < w.heap.size) (hk : Keep b w W) (hj : j ≤ s.size) (hij : i < j) (hr : rst s j = rest)
    (hp : PB W b s j (d + 1) (.pointer none)) (hd : Den eb E F W v bv) (hF : ∀ k, k ∈ F → w.heap.size ≤ k) : Got eb E b s i d bv rest w (.returned v) (W.setCell ⟨b, 2, none⟩ (.int .i64 (d : Int))) := by
  refine ⟨v, F, j, rfl, hk.setCell _ _, hj, hij, hr, hp.set2 _ _ rfl, hd.later (by simp) (fun k hk' => ?_), hF⟩
  exact Below.heap_setCell _ _ _ _ (by have := hF k hk'; show k ≠ b; omega)

theorem name_le (st : Bool) (l : List UInt8) : Pl.nameLen st l ≤ l.length := by
  induction l generalizing st with
  | nil => cases st <;> exact Nat.le_refl _
  | cons c t ih =>
    have := ih true
    unfold Pl.nameLen
    split
    · simp only [List.length_cons]; omega
    · split
      · simp only [List.length_cons]; omega
      · exact Nat.zero_le _

set_option maxRecDepth 100000 in
set_option maxHeartbeats 1000000 in
theorem not_step (eb : Nat) (D : List UInt8 → Option Bool) (E : World → Prop) (N f : Nat) (hC : Cls eb D E) (hN : NotC eb D E N f) (hO : OrC eb D E N f) : NotC eb D E N (f + 1) := by
  intro w b s i d bv rest hb hi hs hd hA
  have HN : Hid (NotC eb D E N f) := hN
  have HO : Hid (OrC eb D E N f) := hO
  have HA : Hid (Pl.notF (D) N (f + 1) (rst s i) = some (bv, rest)) := hA
  have hbs := hb.lt
  have c2 := hb.c2
  have f2 := hb.fz 2
  have HB : Hid (PB w b s i d (.pointer none)) := hb
  have HCC : Hid (Cls eb D E) := hC
  clear hN hO hA hb hC
  have hmf : ∀ (fn : Fn) (first cap : Array Value) (w : World), (Instr.makeFunc fn first cap).run Ybgs.prog w = .ok (.func fn first cap) w := fun _ _ _ _ => rfl
  go_enter_defers Ybgs.func20, Ybgs.ntmps20
  have hdd : decide ((1000 : Int) < (d : Int) + 1) = false := by simp; omega
  go_wp2_with fail
  have P0 : Hid (PB ((w.setCell ⟨b, 2, none⟩ (.int .i64 ((d : Int) + 1))).alloc (.cells #[.pointer (some ⟨b, 0, none⟩)] 97)) b s i (d + 1) (.pointer none)) := (HB.out.set2 (d + 1) _ (by omega)).alloc _
  have K0 : Hid (Keep b w ((w.setCell ⟨b, 2, none⟩ (.int .i64 ((d : Int) + 1))).alloc (.cells #[.pointer (some ⟨b, 0, none⟩)] 97))) := ((Keep.refl _ _).setCell _ _).alloc _
  have Q0 : Hid (((w.setCell ⟨b, 2, none⟩ (.int .i64 ((d : Int) + 1))).alloc (.cells #[.pointer (some ⟨b, 0, none⟩)] 97)).cell? ⟨w.heap.size, 0, none⟩ = some (.pointer (some ⟨b, 0, none⟩))) := by
    have := World.cell?_alloc_new (w.setCell ⟨b, 2, none⟩ (.int .i64 ((d : Int) + 1))) #[.pointer (some ⟨b, 0, none⟩)] 97 0
    rw [World.size_setCell] at this
    exact this
  have S0 : Hid (((w.setCell ⟨b, 2, none⟩ (.int .i64 ((d : Int) + 1))).alloc (.cells #[.pointer (some ⟨b, 0, none⟩)] 97)).heap.size = w.heap.size + 1) := by show _ = _; simp
  clear c2 f2
  generalize (w.setCell ⟨b, 2, none⟩ (.int .i64 ((d : Int) + 1))).alloc (.cells #[.pointer (some ⟨b, 0, none⟩)] 97) = w0 at P0 K0 Q0 S0 ⊢
  refine (peek_any w0 b s i (d + 1) _ P0.out hi (by unfold maxLen; omega)).mono ?_
  rintro e w1 ⟨rfl, hk1, j1, hj1, hr1, hp1⟩
  have HK1 : Hid (Keep b w0 w1) := hk1
  have HR1 : Hid (rst s j1 = Pl.skip (rst s i)) := hr1
  have HP1 : Hid (PB w1 b s j1 (d + 1) (.pointer none)) := hp1
  have hij : i ≤ j1 := skip_pos hr1 hi hj1
  have q1 : w1.cell? ⟨w.heap.size, 0, none⟩ = some (.pointer (some ⟨b, 0, none⟩)) := by
    rw [hk1.cell (p := ⟨w.heap.size, 0, none⟩) (by rw [S0.out]; simp) (by show w.heap.size ≠ b; omega)]; exact Q0.out
  have c1 := hp1.c1
  have f1 := hp1.fz 1
  have S1 : Hid (w.heap.size < w1.heap.size) := by show _ < _; have := hk1.size; have := S0.out; omega
  clear hk1 hr1 hp1
  have e33 := tok_c 33 (by decide) (Pl.skip (rst s i))
  have e40 := tok_c 40 (by decide) (Pl.skip (rst s i))
  cases h33 : Pl.headIs 33 (Pl.skip (rst s i)) with
  | true =>
    rw [h33] at e33
    have H33 : Hid (_ = _) := h33
    clear h33 e40
    have hlt : j1 < s.size := head_lt (c := 33) (by rw [HR1.out]; exact H33.out)
    obtain ⟨b2, hsub, hbv⟩ : ∃ b2, Pl.notF (D) N f (rst s (j1 + 1)) = some (b2, rest) ∧ bv = !b2 := by
      have := HA.out
      rw [Pl.notF, if_pos H33.out] at this
      rw [← rst_tail, HR1.out]
      cases hx : Pl.notF (D) N f (Pl.skip (rst s i)).tail with
      | none => rw [hx] at this; cases this
      | some x =>
        obtain ⟨b2, r2⟩ := x
        rw [hx] at this
        simp only [Option.some.injEq, Prod.mk.injEq] at this
        exact ⟨b2, by rw [this.2], this.1.symm⟩
    have HSUB : Hid (_ = _) := hsub
    have HBV : Hid (bv = !b2) := hbv
    clear hsub hbv
    go_wp2_with fail
    have P2 : Hid (PB (w1.setCell ⟨b, 1, none⟩ (.int .i64 ((j1 : Int) + 1))) b s (j1 + 1) (d + 1) (.pointer none)) := HP1.out.set1 _ _ (by omega)
    refine (HN.out _ b s (j1 + 1) (d + 1) b2 rest P2.out (by omega) hs (by omega) HSUB.out).mono ?_
    rintro e w2 ⟨v2, F2, j2, rfl, hk2, hj2, hjj, hr2, hp2, hd2, hlo2⟩
    have KK : Hid (Keep b w w2) := ((K0.out.trans HK1.out).setCell _ _).trans hk2
    have q2 : w2.cell? ⟨w.heap.size, 0, none⟩ = some (.pointer (some ⟨b, 0, none⟩)) := by
      rw [hk2.cell (p := ⟨w.heap.size, 0, none⟩) (by have := S1.out; simpa using this) (by show w.heap.size ≠ b; omega), World.cell?_setCell_other _ _ _ _ (by intro h; injection h; omega)]; exact q1
    have HR2 : Hid (rst s j2 = rest) := hr2
    have HP2 : Hid (PB w2 b s j2 (d + 1) (.pointer none)) := hp2
    have HD2 : Hid (Den eb E F2 w2 v2 b2) := hd2
    have HLO : Hid (∀ k, k ∈ F2 → w.heap.size ≤ k) := fun k hk => by have h1 := hlo2 k hk; rw [World.size_setCell] at h1; have := S1.out; omega
    clear hk2 hr2 hp2 hd2 hlo2 q1 c1 f1
    have c3 := HP2.out.c3
    have z2 := HP2.out.c2
    have zf := HP2.out.fz 2
    obtain ⟨hF2, T, x, fn, y, rfl, hrest⟩ := HD2.out
    clear hF2 hrest
    go_wp2_with fail
    refine leaves_cons (f := 21) (args := #[.pointer (some ⟨w.heap.size, 0, none⟩)]) (by simp) (by simp [go_sem]) ?_
    refine (dec_any b w.heap.size d (by omega) .returning _ q2 z2 zf).mono ?_
    rintro e u' w'' ⟨rfl, rfl, rfl⟩
    exact ⟨_, results_tmp rfl _ _ _, got_close hbs KK.out hj2 (by omega) HR2.out HP2.out (by rw [HBV.out]; exact den_not HCC.out HD2.out) HLO.out⟩
  | false =>
    rw [h33] at e33
    have H33 : Hid (_ = _) := h33
    clear h33
    cases h40 : Pl.headIs 40 (Pl.skip (rst s i)) with
    | true =>
      rw [h40] at e40
      have H40 : Hid (_ = _) := h40
      clear h40
      have hlt : j1 < s.size := head_lt (c := 40) (by rw [HR1.out]; exact H40.out)
      obtain ⟨r2, hsub, h41, hrest⟩ : ∃ r2, Pl.orL (Pl.andL (Pl.notF (D) N f) N true) N false (rst s (j1 + 1)) = some (bv, r2) ∧ Pl.headIs 41 (Pl.skip r2) = true ∧ (Pl.skip r2).tail = rest := by
        have := HA.out
        rw [Pl.notF, if_neg (by rw [H33.out]; decide), if_pos H40.out] at this
        rw [← rst_tail, HR1.out]
        cases hx : Pl.orL (Pl.andL (Pl.notF (D) N f) N true) N false (Pl.skip (rst s i)).tail with
        | none => rw [hx] at this; cases this
        | some x =>
          obtain ⟨b2, r2⟩ := x
          rw [hx] at this
          simp only at this
          cases h41 : Pl.headIs 41 (Pl.skip r2) with
          | false => rw [h41] at this; simp at this
          | true =>
            rw [h41] at this
            simp at this
            exact ⟨r2, by rw [this.1], h41, this.2⟩
      have HSUB : Hid (_ = _) := hsub
      have H41 : Hid (_ = _) := h41
      have HREST : Hid (_ = _) := hrest
      clear hsub h41 hrest
      go_wp2_with fail
      have P2 : Hid (PB (w1.setCell ⟨b, 1, none⟩ (.int .i64 ((j1 : Int) + 1))) b s (j1 + 1) (d + 1) (.pointer none)) := HP1.out.set1 _ _ (by omega)
      refine (HO.out _ b s (j1 + 1) (d + 1) bv r2 P2.out (by omega) hs (by omega) HSUB.out).mono ?_
      rintro e w2 ⟨v2, F2, j2, rfl, hk2, hj2, hjj, hr2, hp2, hd2, hlo2⟩
      have KK : Hid (Keep b w w2) := ((K0.out.trans HK1.out).setCell _ _).trans hk2
      have q2 : w2.cell? ⟨w.heap.size, 0, none⟩ = some (.pointer (some ⟨b, 0, none⟩)) := by
        rw [hk2.cell (p := ⟨w.heap.size, 0, none⟩) (by have := S1.out; simpa using this) (by show w.heap.size ≠ b; omega), World.cell?_setCell_other _ _ _ _ (by intro h; injection h; omega)]; exact q1
      have HR2 : Hid (rst s j2 = r2) := hr2
      have HP2 : Hid (PB w2 b s j2 (d + 1) (.pointer none)) := hp2
      have HD2 : Hid (Den eb E F2 w2 v2 bv) := hd2
      have HLO : Hid (∀ k, k ∈ F2 → w.heap.size ≤ k) := fun k hk => by have h1 := hlo2 k hk; rw [World.size_setCell] at h1; have := S1.out; omega
      have S2 : Hid (w.heap.size < w2.heap.size) := by show _ < _; have h1 := hk2.size; rw [World.size_setCell] at h1; have := S1.out; omega
      clear hk2 hr2 hp2 hd2 hlo2 q1 c1 f1
      have c3 := HP2.out.c3
      obtain ⟨hF2, T, x, fn, y, rfl, hrest⟩ := HD2.out
      clear hF2 hrest
      go_wp2_with fail
      refine (peek_any w2 b s j2 (d + 1) _ HP2.out hj2 (by unfold maxLen; omega)).mono ?_
      rintro e w3 ⟨rfl, hk3, j3, hj3, hr3, hp3⟩
      have q3 : w3.cell? ⟨w.heap.size, 0, none⟩ = some (.pointer (some ⟨b, 0, none⟩)) := by
        rw [hk3.cell (p := ⟨w.heap.size, 0, none⟩) S2.out (by show w.heap.size ≠ b; omega)]; exact q2
      have hj23 : j2 ≤ j3 := skip_pos hr3 hj2 hj3
      have HK3 : Hid (Keep b w2 w3) := hk3
      have HR3 : Hid (rst s j3 = Pl.skip r2) := by show _ = _; rw [hr3, HR2.out]
      have HP3 : Hid (PB w3 b s j3 (d + 1) (.pointer none)) := hp3
      have e41 := tok_c 41 (by decide) (Pl.skip (rst s j2))
      rw [HR2.out, H41.out] at e41
      rw [HR2.out]
      have hlt3 : j3 < s.size := head_lt (c := 41) (by rw [HR3.out]; exact H41.out)
      clear hk3 hr3 hp3 q2 c3
      have d1 := HP3.out.c1
      have g1 := HP3.out.fz 1
      go_wp2_with fail
      clear d1 g1
      have HP4 : Hid (PB (w3.setCell ⟨b, 1, none⟩ (.int .i64 ((j3 : Int) + 1))) b s (j3 + 1) (d + 1) (.pointer none)) := HP3.out.set1 _ _ (by omega)
      refine leaves_cons (f := 21) (args := #[.pointer (some ⟨w.heap.size, 0, none⟩)]) (by simp) (by simp [go_sem]) ?_
      refine (dec_any b w.heap.size d (by omega) .returning _ ?_ HP4.out.c2 (HP4.out.fz 2)).mono ?_
      · rw [World.cell?_setCell_other _ _ _ _ (by intro h; injection h; omega)]; exact q3
      rintro e u' w'' ⟨rfl, rfl, rfl⟩
      refine ⟨_, results_tmp rfl _ _ _, got_close hbs ((KK.out.trans HK3.out).setCell _ _) (by omega) (by omega) ?_ HP4.out (F := F2) ?_ HLO.out⟩
      · rw [← rst_tail, HR3.out]; exact HREST.out
      · refine HD2.out.later ?_ (fun k hk => ?_)
        · have := HK3.out.size; simpa using this
        · have q := HLO.out k hk
          rw [Below.heap_setCell _ _ _ _ (by show k ≠ b; omega)]
          exact HK3.out.block k (HD2.out.1 k hk) (by omega)
    | false =>
      rw [h40] at e40
      have H40 : Hid (_ = _) := h40
      clear h40
      obtain ⟨hn0, h36, hD, hrest⟩ : Pl.nameLen false (rst s j1) ≠ 0 ∧ Pl.headIs 36 ((rst s j1).drop (Pl.nameLen false (rst s j1))) = false ∧ D ((rst s j1).take (Pl.nameLen false (rst s j1))) = some bv ∧ (rst s j1).drop (Pl.nameLen false (rst s j1)) = rest := by
        have := HA.out
        rw [Pl.notF, if_neg (by rw [H33.out]; decide), if_neg (by rw [H40.out]; decide)] at this
        rw [HR1.out]
        by_cases hz : Pl.nameLen false (Pl.skip (rst s i)) = 0
        · rw [if_pos hz] at this; cases this
        rw [if_neg hz] at this
        cases h36 : Pl.headIs 36 ((Pl.skip (rst s i)).drop (Pl.nameLen false (Pl.skip (rst s i)))) with
        | true => rw [h36] at this; simp at this
        | false =>
          rw [h36] at this
          simp only [Bool.false_eq_true, if_false] at this
          cases hD : D ((Pl.skip (rst s i)).take (Pl.nameLen false (Pl.skip (rst s i)))) with
          | none => rw [hD] at this; cases this
          | some x =>
            rw [hD] at this
            simp only [Option.some.injEq, Prod.mk.injEq] at this
            exact ⟨hz, rfl, by rw [this.1], this.2⟩
      have HN0 : Hid (_ ≠ _) := hn0
      have H36 : Hid (_ = _) := h36
      have HD : Hid (_ = _) := hD
      have HREST : Hid (_ = _) := hrest
      clear hn0 h36 hD hrest
      go_wp2_with fail
      refine (name_any w1 b s j1 (d + 1) _ HP1.out hj1 (by unfold maxLen; omega) rfl HN0.out H36.out).mono ?_
      rintro e w2 ⟨rfl, hk2, hp2⟩
      have q2 : w2.cell? ⟨w.heap.size, 0, none⟩ = some (.pointer (some ⟨b, 0, none⟩)) := by
        rw [hk2.cell (p := ⟨w.heap.size, 0, none⟩) S1.out (by show w.heap.size ≠ b; omega)]; exact q1
      have HK2 : Hid (Keep b w1 w2) := hk2
      have HP2 : Hid (PB w2 b s (j1 + Pl.nameLen false (rst s j1)) (d + 1) (.pointer none)) := hp2
      clear hk2 hp2 q1 c1 f1
      go_wp2_with fail
      refine leaves_cons (f := 21) (args := #[.pointer (some ⟨w.heap.size, 0, none⟩)]) (by simp) (by simp [go_sem]) ?_
      refine (dec_any b w.heap.size d (by omega) .returning _ q2 HP2.out.c2 (HP2.out.fz 2)).mono ?_
      rintro e u' w'' ⟨rfl, rfl, rfl⟩
      refine ⟨_, results_tmp rfl _ _ _, got_close hbs ((K0.out.trans HK1.out).trans HK2.out) ?_ ?_ ?_ HP2.out (F := []) (den_name HCC.out _ _ HD.out _) (fun k hk => (List.not_mem_nil hk).elim)⟩
      · have := name_le false (rst s j1)
        rw [rst_len] at this; omega
      · have := HN0.out; omega
      · rw [← HREST.out]; unfold rst; rw [List.drop_drop]

theorem not_any (eb : Nat) (D : List UInt8 → Option Bool) (E : World → Prop) (N : Nat) (hC : Cls eb D E) (f : Nat) : NotC eb D E N f := by
  induction f with
  | zero => intro w b s i d bv rest _ _ _ _ hA; cases hA
  | succ f ih => exact not_step eb D E N f hC ih (or_any eb D E N f hC (and_any eb D E N f hC ih))
theorem orc_any (eb : Nat) (D : List UInt8 → Option Bool) (E : World → Prop) (N : Nat) (hC : Cls eb D E) (f : Nat) : OrC eb D E N f := or_any eb D E N f hC (and_any eb D E N f hC (not_any eb D E N hC f))

end Go.Proofs.YboneseleGreatFmt
