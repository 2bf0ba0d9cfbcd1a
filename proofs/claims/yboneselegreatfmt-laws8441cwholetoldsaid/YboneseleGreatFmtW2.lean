import Derived.Test.YboneseleGreatFmtW1
import Derived.Lib.Strings
import Derived.Lib.IndexBytes
namespace Go.Proofs.YboneseleGreatFmt
open Go.RowKit

theorem size_len (s : ByteArray) : s.size = s.data.toList.length := Lib.size_eq s
theorem two_bars (s : ByteArray) (h : 2 ≤ s.size) : ((s.extract 0 2).toList == [124, 124]) = (Pl.headIs 124 s.data.toList && Pl.headIs 124 s.data.toList.tail) := by
  rw [Lib.toList_data, Lib.extract_data]
  have h2 : 2 ≤ s.data.toList.length := by rw [← size_len]; exact h
  match hl : s.data.toList, h2 with
  | a :: b :: t, _ => simp [Pl.headIs, Bool.and_comm]
theorem no_bars (s : ByteArray) (h : s.size < 2) : (Pl.headIs 124 s.data.toList && Pl.headIs 124 s.data.toList.tail) = false := by
  have h2 : s.data.toList.length < 2 := by rw [← size_len]; exact h
  match hl : s.data.toList, h2 with
  | [], _ => rfl
  | [a], _ => simp [Pl.headIs]
set_option maxHeartbeats 400000 in
theorem hp_any (s : ByteArray) (w : World) : Calls Ybgs.prog 18 #[.string s, .string ⟨#[124, 124]⟩] w fun e w' => e = .returned (.bool (Pl.headIs 124 s.data.toList && Pl.headIs 124 s.data.toList.tail)) ∧ w' = w := by
  go_enter Ybgs.func18, Ybgs.ntmps18
  go_wp2
  · go_ret
    exact ⟨ret_bool (two_bars s (by omega)), rfl⟩
  · go_ret
    exact ⟨ret_bool (no_bars s (by omega)).symm, rfl⟩

def tok : List UInt8 → List UInt8
  | [] => []
  | c :: t => if c == 124 && Pl.headIs 124 t then [124, 124] else [c]

/-- the bytes from place i on -/
def rst (s : ByteArray) (i : Nat) : List UInt8 := s.data.toList.drop i

theorem rst_cons (s : ByteArray) (j : Nat) (h : j < s.size) : rst s j = s[j] :: rst s (j + 1) := by
  unfold rst
  rw [List.drop_eq_getElem_cons (by simpa using h)]
  rfl
theorem rst_end (s : ByteArray) (j : Nat) (h : s.size ≤ j) : rst s j = [] := by
  unfold rst; exact List.drop_of_length_le (by simpa using h)

theorem mk_of {a : ByteArray} {l : List UInt8} (h : a.data.toList = l) : a = mk l := by
  subst h; rfl
theorem mk_data (l : List UInt8) : (mk l).data.toList = l := rfl
theorem mk_size (l : List UInt8) : (mk l).size = l.length := rfl
theorem tok_one (x : ByteArray) (h : x.data.toList ≠ []) (hB : (Pl.headIs 124 x.data.toList && Pl.headIs 124 x.data.toList.tail) = false) : x.extract 0 1 = mk (tok x.data.toList) := by
  apply mk_of
  rw [Lib.extract_data]
  match hl : x.data.toList, h with
  | c :: t, _ =>
    rw [hl] at hB
    have hB' : (c == 124 && Pl.headIs 124 t) = false := hB
    simp [tok, hB']
theorem tok_two (l : List UInt8) (hB : (Pl.headIs 124 l && Pl.headIs 124 l.tail) = true) : tok l = [124, 124] := by
  match l with
  | [] => simp [Pl.headIs] at hB
  | c :: t =>
    have hB' : (c == 124 && Pl.headIs 124 t) = true := hB
    simp [tok, hB']

set_option maxHeartbeats 800000 in
theorem peek_any (w : World) (b : Nat) (s : ByteArray) (i d : Nat) (er : Value) (hb : PB w b s i d er) (hi : i ≤ s.size) (hs : s.size ≤ maxLen) :
   Calls Ybgs.prog 13 #[.pointer (some ⟨b, 0, none⟩)] w fun e w' => e = .returned (.string (mk (tok (Pl.skip (rst s i))))) ∧ Keep b w w' ∧ ∃ j, j ≤ s.size ∧ rst s j = Pl.skip (rst s i) ∧ PB w' b s j d er := by
  unfold maxLen at hs
  go_enter Ybgs.func13, Ybgs.ntmps13
  go_wp2
  go_loopg [] (s.size - i) (fun g wr => ∃ j : Nat, j ≤ s.size ∧ g = s.size - j ∧ Pl.skip (rst s j) = Pl.skip (rst s i) ∧ PB wr b s j d er ∧ Keep b w wr)
  case atStart => exact ⟨i, hi, rfl, rfl, hb, Keep.refl _ _⟩
  case round =>
    obtain ⟨j, hj, hg, hsk, hp, hk⟩ := hrel
    have c0 := hp.c0
    have c1 := hp.c1
    have f1 := hp.fz 1
    have SK : Hid (Pl.skip (rst s j) = Pl.skip (rst s i)) := hsk
    have HG : Hid (gk = s.size - j) := hg
    clear hsk hg hb
    by_cases hlt : j < s.size
    · have RC : Hid (rst s j = s[j] :: rst s (j + 1)) := rst_cons s j hlt
      by_cases hc : Pl.isWs s[j] = true
      · have NX : Hid (Pl.skip (rst s (j + 1)) = Pl.skip (rst s i)) := by
          show _ = _
          rw [← SK.out, RC.out]; simp [Pl.skip, hc]
        by_cases h32 : ((s[j].toNat : Int) == 32) = true
        · clear hc
          go_wp2
          go_quiet (fail)
          go_wp2
          go_roundg (s.size - (j + 1))
          case measure => rw [HG.out]; omega
          case rel => exact ⟨j + 1, by omega, rfl, NX.out, (hp.drewN nq).set1 (j + 1) _ (by omega), (hk.drewN nq).setCell _ _⟩
        · have h32' : ((s[j].toNat : Int) == 32) = false := by simpa using h32
          have h9 : ((s[j].toNat : Int) == 9) = true := by
            simp [Pl.isWs, ← UInt8.toNat_inj] at hc h32 ⊢
            omega
          clear hc h32
          go_wp2
          go_quiet (fail)
          go_wp2
          go_roundg (s.size - (j + 1))
          case measure => rw [HG.out]; omega
          case rel => exact ⟨j + 1, by omega, rfl, NX.out, (hp.drewN nq).set1 (j + 1) _ (by omega), (hk.drewN nq).setCell _ _⟩
      · have h32 : ((s[j].toNat : Int) == 32) = false := by
          simp [Pl.isWs, ← UInt8.toNat_inj] at hc ⊢
          omega
        have h9 : ((s[j].toNat : Int) == 9) = false := by
          simp [Pl.isWs, ← UInt8.toNat_inj] at hc ⊢
          omega
        have EN : Hid (rst s j = Pl.skip (rst s i)) := by
          show _ = _
          rw [← SK.out, RC.out]; simp [Pl.skip, hc]
        clear hc
        have hne : (s.extract j s.size).toList.isEmpty = false := by
          have : rst s j ≠ [] := by rw [RC.out]; simp
          rw [Lib.toList_data, Lib.extract_to_end]
          simpa [rst] using this
        have ED : Hid ((s.extract j s.size).data.toList = rst s j) := by show _ = _; rw [Lib.extract_to_end]; rfl
        have TK : Hid (rst s j ≠ []) := by show rst s j ≠ []; rw [RC.out]; simp
        have h1s : (1 : Nat) ≤ (s.extract j s.size).size := by
          rw [size_len, ED.out, RC.out]; simp
        go_wp2
        go_quiet (fail)
        go_wp2
        go_quiet (fail)
        cases hB : (Pl.headIs 124 (s.extract j s.size).data.toList && Pl.headIs 124 (s.extract j s.size).data.toList.tail)
        · have HB : Hid (_ = _) := hB
          clear hB
          go_wp2_with fail
          refine (hp_any _ _).mono ?_
          rintro e w' ⟨rfl, rfl⟩
          rw [HB.out]
          go_wp2_with fail
          go_ret
          refine ⟨ret_str ?_, (hk.drewN _), j, hj, EN.out, hp.drewN _⟩
          rw [← EN.out, ← ED.out]; exact tok_one _ (by rw [ED.out]; exact TK.out) HB.out
        · have HB : Hid (_ = _) := hB
          clear hB
          go_wp2_with fail
          refine (hp_any _ _).mono ?_
          rintro e w' ⟨rfl, rfl⟩
          rw [HB.out]
          go_wp2_with fail
          go_ret
          refine ⟨ret_str ?_, (hk.drewN _), j, hj, EN.out, hp.drewN _⟩
          rw [← EN.out, ← ED.out, tok_two _ HB.out]; rfl
    · have hd : decide ((j : Int) < (s.size : Int)) = false := by simp; omega
      have EN : Hid (rst s j = Pl.skip (rst s i)) := by
        show _ = _
        rw [← SK.out, rst_end s j (by omega)]; rfl
      have hne : (s.extract j s.size).toList.isEmpty = true := by
        rw [Lib.toList_data, Lib.extract_to_end]
        simpa [rst] using rst_end s j (by omega)
      go_wp2
      go_quiet (fail)
      go_wp2
      go_quiet (fail)
      go_wp2_with fail
      go_ret
      exact ⟨ret_str (by rw [← EN.out, rst_end s j (by omega)]; rfl), (hk.drewN _), j, hj, EN.out, hp.drewN _⟩
end Go.Proofs.YboneseleGreatFmt
