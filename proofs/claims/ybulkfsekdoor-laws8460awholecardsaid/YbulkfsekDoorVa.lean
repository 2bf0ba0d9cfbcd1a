import Derived.Test.YbulkfsekDoorSh
import Derived.WalkKit
import Derived.ProofKit
import Derived.Deep.LoopGhost
import Derived.Deep.DeepCutAuto
import Derived.Handy
import Derived.WalkSpells
import Derived.WalkLawsBesides
import Derived.Laws.IdiomStrings
/-
  zzs8460adec: the decimal digits, written from the last to the first.
-/
namespace Go.Proofs.YbulkfsekDoor
open Go.RowKit

theorem at_new {w : World} {c : Array Value} {t : TypeId} {b i : Nat} {v : Value} (hb : b = w.heap.size) (hv : c[i]? = some v) : (w.alloc (.cells c t)).cell? ⟨b, i, none⟩ = some v := by
  subst hb; rw [World.cell?_alloc_new]; exact hv
theorem fz_new {w : World} {c : Array Value} {t : TypeId} {b i : Nat} (hb : b = w.heap.size) : (w.alloc (.cells c t)).frozen? ⟨b, i, none⟩ = false := by
  subst hb; exact World.frozen?_alloc_new _ _ _ _

/-- the array while it is filled from behind: its last cells hold L -/
structure DW (w : World) (L : List UInt8) (wr : World) : Prop where
  below : Below w.heap.size w wr
  lt : w.heap.size < wr.heap.size
  there : ∀ j, j < 24 → ∃ v, wr.cell? ⟨w.heap.size, j, none⟩ = some v
  fz : ∀ j, wr.frozen? ⟨w.heap.size, j, none⟩ = false
  dig : ∀ p j c, p + L.length = 24 → L[j]? = some c → wr.cell? ⟨w.heap.size, p + j, none⟩ = some (.int .u8 (c.toNat : Int))

def zero24 : Array Value := #[.int .u8 0, .int .u8 0, .int .u8 0, .int .u8 0, .int .u8 0, .int .u8 0, .int .u8 0, .int .u8 0, .int .u8 0, .int .u8 0, .int .u8 0, .int .u8 0, .int .u8 0, .int .u8 0, .int .u8 0, .int .u8 0, .int .u8 0, .int .u8 0, .int .u8 0, .int .u8 0, .int .u8 0, .int .u8 0, .int .u8 0, .int .u8 0]
theorem DW.start (w : World) : DW w [] (w.alloc (.cells zero24 43)) :=
  ⟨(Below.refl _ _).alloc (Nat.le_refl _) _, by simp, fun j hj => ⟨zero24[j]'(by simpa [zero24] using hj), at_new rfl (Array.getElem?_eq_getElem _)⟩, fun j => fz_new rfl, fun p j c _ hc => by simp at hc⟩
theorem DW.step {w : World} {L : List UInt8} {wr : World} (h : DW w L wr) (p : Nat) (c : UInt8) (x : Int) (hx : x = (c.toNat : Int)) (hp : p + 1 + L.length = 24) : DW w (c :: L) (wr.setCell ⟨w.heap.size, p, none⟩ (.int .u8 x)) := by
  subst hx
  have other : ∀ j, j ≠ p → ∀ v, wr.cell? ⟨w.heap.size, j, none⟩ = some v → (wr.setCell ⟨w.heap.size, p, none⟩ (.int .u8 (c.toNat : Int))).cell? ⟨w.heap.size, j, none⟩ = some v := fun j hj v hv => by
    rw [World.cell?_setCell_other _ _ _ _ (fun e => by injection e with e1 e2; exact hj e2.symm)]; exact hv
  obtain ⟨v0, hv0⟩ := h.there p (by omega)
  have same : (wr.setCell ⟨w.heap.size, p, none⟩ (.int .u8 (c.toNat : Int))).cell? ⟨w.heap.size, p, none⟩ = some (.int .u8 (c.toNat : Int)) := World.cell?_setCell_same _ _ _ hv0
  refine ⟨h.below.setCell (p := ⟨w.heap.size, p, none⟩) (Nat.le_refl _) _, by rw [World.size_setCell]; exact h.lt, fun j hj => ?_, fun j => by rw [World.frozen?_setCell]; exact h.fz j, fun q j d hq hd => ?_⟩
  · by_cases e : j = p
    · subst e; exact ⟨_, same⟩
    · obtain ⟨v, hv⟩ := h.there j hj
      exact ⟨v, other j e v hv⟩
  · simp only [List.length_cons] at hq
    obtain rfl : q = p := by omega
    cases j with
    | zero =>
      simp only [List.getElem?_cons_zero, Option.some.injEq] at hd
      subst hd; exact same
    | succ j =>
      simp only [List.getElem?_cons_succ] at hd
      rw [show q + (j + 1) = (q + 1) + j by omega]
      exact other _ (by omega) _ (h.dig (q + 1) j d (by omega) hd)

theorem dec_small {u d : Nat} (h : u < 10) (hd : u % 10 = d) : Lib.decDigits u = [UInt8.ofNat (48 + d)] := by
  rw [Lib.decDigits, dif_pos h, ← hd, Nat.mod_eq_of_lt h]
theorem dec_big {u d q : Nat} (h : ¬ u < 10) (hd : u % 10 = d) (hq : u / 10 = q) : Lib.decDigits u = Lib.decDigits q ++ [UInt8.ofNat (48 + d)] := by
  rw [Lib.decDigits, dif_neg h, hd, hq]
theorem ofNat_dig {d : Nat} (h : d < 10) : (48 + (d : Int)) = ((UInt8.ofNat (48 + d)).toNat : Int) := by
  rw [UInt8.toNat_ofNat']
  omega
theorem wrap_neg (m : Nat) (h0 : 0 < m) (hm : m ≤ 9223372036854775808) : IntKind.wrap .u64 (-IntKind.wrap .u64 (-(m : Int))) = (m : Int) := by
  simp only [IntKind.wrap, IntKind.signed, IntKind.bits]
  simp
  omega
theorem str_of {w : World} {L : List UInt8} {wr : World} (h : DW w L wr) (p : Nat) (hp : p + L.length = 24) : (convert 44 9 (.slice (some ⟨w.heap.size, p, none⟩) (24 - p) (24 - p))).run Ybad.prog wr = .ok (.string ⟨L.toArray⟩) wr := by
  have e : 24 - p = L.length := by omega
  rw [e]
  refine run_convert_bytes_back (P := Ybad.prog) wr 44 9 5 ⟨w.heap.size, p, none⟩ _ L Ybad.underlying44 Ybad.underlying5 Ybad.underlying9 (fun j hj => ?_)
  rw [Addr.add_lit]
  exact h.dig p j _ hp (List.getElem?_eq_getElem hj)

set_option maxRecDepth 100000 in
set_option maxHeartbeats 2000000 in
theorem dec_pos (m : Nat) (hm : m ≤ 9223372036854775807) (w : World) : Calls Ybad.prog 6 #[.int .i64 (m : Int)] w (fun e w' => e = .returned (.string ⟨(Lib.itoa (m : Int)).toArray⟩) ∧ Below w.heap.size w w') := by
  have hm0 : ¬ (m : Int) < 0 := by omega
  have HI0 : Lib.itoa (m : Int) = Lib.decDigits m := by
    unfold Lib.itoa
    rw [if_neg (by omega), show (m : Int).toNat = m by omega]
  have HIT : Hid (Lib.itoa (m : Int) = Lib.decDigits m) := HI0
  clear HI0
  go_enter Ybad.func6, Ybad.ntmps6
  go_wp2_with fail
  go_loopg [3, 6] 19 (fun g s3 s6 wr => ∃ (u p : Nat) (L : List UInt8), s3 = .int .u64 (u : Int) ∧ s6 = .int .i64 ((p : Int) + 1) ∧ p + 1 + L.length = 24 ∧ L.length ≤ 18 ∧ g = 19 - L.length ∧ u < 10 ^ (19 - L.length) ∧ Lib.decDigits m = Lib.decDigits u ++ L ∧ DW w L wr)
  case atStart => exact ⟨m, 23, [], rfl, rfl, rfl, by decide, rfl, by simp; omega, by simp, DW.start w⟩
  case round =>
    obtain ⟨u, p, L, rfl, rfl, hp, hL, hg, hu, hdec, hD⟩ := hrel
    obtain ⟨d, hd⟩ : ∃ d : Nat, d = u % 10 := ⟨_, rfl⟩
    obtain ⟨q, hq⟩ : ∃ q : Nat, q = u / 10 := ⟨_, rfl⟩
    have hd10 : d < 10 := by omega
    have hdi : (u : Int) % 10 = (d : Int) := by omega
    have hqi : (u : Int) / 10 = (q : Int) := by omega
    have hu64 : u < 10000000000000000000 := Nat.lt_of_lt_of_le hu (Nat.le_trans (Nat.pow_le_pow_right (by decide) (Nat.sub_le 19 L.length)) (by decide))
    obtain ⟨v0, hv0⟩ := hD.there p (by omega)
    have hf0 := hD.fz p
    have HD : Hid (DW w L wr) := hD
    have HU : Hid (u < 10 ^ (19 - L.length)) := hu
    have HDE : Hid (Lib.decDigits m = Lib.decDigits u ++ L) := hdec
    have HDD : Hid (u % 10 = d) := hd.symm
    have HQQ : Hid (u / 10 = q) := hq.symm
    have HG : Hid (gk = 19 - L.length) := hg
    have hp24 : (p : Int) < 24 := by omega
    have hp0 : (0 : Int) ≤ (p : Int) := by omega
    have hbl := hD.lt
    clear hD hu hdec hd hq hg
    obtain ⟨W2, hW2⟩ : ∃ W2 : World, W2 = wr.setCell ⟨w.heap.size, p, none⟩ (.int .u8 (48 + (d : Int))) := ⟨_, rfl⟩
    obtain ⟨c8, hc8⟩ : ∃ c8 : UInt8, c8 = UInt8.ofNat (48 + d) := ⟨_, rfl⟩
    have HC8 : Hid (UInt8.ofNat (48 + d) = c8) := hc8.symm
    have HD2 : Hid (DW w (c8 :: L) W2) := by rw [hW2, hc8]; exact HD.out.step p _ _ (ofNat_dig hd10) hp
    have HW2 : Hid (wr.setCell ⟨w.heap.size, p, none⟩ (.int .u8 (48 + (d : Int))) = W2) := hW2.symm
    clear hW2 hc8
    by_cases hq0 : q = 0
    · have hqb : ((q : Int) == 0) = true := by simp [hq0]
      have HF : Hid (Lib.decDigits m = c8 :: L) := by
        have hs : Lib.decDigits u = [c8] := by rw [← HC8.out]; exact dec_small (by have := HQQ.out; omega) HDD.out
        exact (HDE.out.trans (by rw [hs]; rfl) : Lib.decDigits m = c8 :: L)
      have HQ0 : Hid (q = 0) := hq0
      clear hq0
      go_upto_region 11 with (fail)
      rw [HW2.out]
      have hcv := str_of HD2.out p (by simp only [List.length_cons]; omega)
      have hq240 : (p : Int) ≤ 24 := by omega
      have hbl2 := HD2.out.lt
      go_wp2_with fail
      go_ret
      exact ⟨by rw [HIT.out, HF.out]; rfl, HD2.out.below⟩
    · have hqb : ((q : Int) == 0) = false := by simp [hq0]
      have hbig : ¬ u < 10 := by have := HQQ.out; omega
      have hlen : L.length ≤ 17 := by
        have h1 := HU.out
        rcases Nat.lt_or_ge L.length 18 with h | h
        · omega
        · have e : 19 - L.length = 1 := by omega
          rw [e] at h1
          omega
      have hun : q < 10 ^ (19 - (L.length + 1)) := by
        have h1 := HU.out
        rw [show 19 - L.length = (19 - (L.length + 1)) + 1 by omega, Nat.pow_succ] at h1
        have h2 := HQQ.out
        omega
      have HUN : Hid (q < 10 ^ (19 - (L.length + 1))) := hun
      have hbg2 : Lib.decDigits u = Lib.decDigits q ++ [c8] := by rw [← HC8.out]; exact dec_big hbig HDD.out HQQ.out
      have HDN : Hid (Lib.decDigits m = Lib.decDigits q ++ (c8 :: L)) := by
        exact (HDE.out.trans (by rw [hbg2, List.append_assoc]; rfl) : Lib.decDigits m = Lib.decDigits q ++ (c8 :: L))
      clear hun hbg2
      go_wp2_with fail
      rw [HW2.out]
      go_roundg (19 - (L.length + 1))
      case measure => rw [HG.out]; omega
      case rel => exact ⟨q, p - 1, c8 :: L, rfl, congrArg (Value.int .i64) (by omega), by simp only [List.length_cons]; omega, by simp only [List.length_cons]; omega, rfl, HUN.out, HDN.out, HD2.out⟩
set_option maxRecDepth 100000 in
set_option maxHeartbeats 2000000 in
theorem dec_neg (m : Nat) (h0 : 0 < m) (hm : m ≤ 9223372036854775808) (w : World) : Calls Ybad.prog 6 #[.int .i64 (-(m : Int))] w (fun e w' => e = .returned (.string ⟨(Lib.itoa (-(m : Int))).toArray⟩) ∧ Below w.heap.size w w') := by
  have hm0 : -(m : Int) < 0 := by omega
  have HI0 : Lib.itoa (-(m : Int)) = 45 :: Lib.decDigits m := by
    unfold Lib.itoa
    rw [if_pos (by omega), show (-(m : Int)).natAbs = m by omega]
  have HIT : Hid (Lib.itoa (-(m : Int)) = 45 :: Lib.decDigits m) := HI0
  clear HI0
  go_enter Ybad.func6, Ybad.ntmps6
  go_wp2_with fail
  rw [wrap_neg m h0 hm]
  go_loopg [3, 6] 19 (fun g s3 s6 wr => ∃ (u p : Nat) (L : List UInt8), s3 = .int .u64 (u : Int) ∧ s6 = .int .i64 ((p : Int) + 1) ∧ p + 1 + L.length = 24 ∧ L.length ≤ 18 ∧ g = 19 - L.length ∧ u < 10 ^ (19 - L.length) ∧ Lib.decDigits m = Lib.decDigits u ++ L ∧ DW w L wr)
  case atStart => exact ⟨m, 23, [], rfl, rfl, rfl, by decide, rfl, by simp; omega, by simp, DW.start w⟩
  case round =>
    obtain ⟨u, p, L, rfl, rfl, hp, hL, hg, hu, hdec, hD⟩ := hrel
    obtain ⟨d, hd⟩ : ∃ d : Nat, d = u % 10 := ⟨_, rfl⟩
    obtain ⟨q, hq⟩ : ∃ q : Nat, q = u / 10 := ⟨_, rfl⟩
    have hd10 : d < 10 := by omega
    have hdi : (u : Int) % 10 = (d : Int) := by omega
    have hqi : (u : Int) / 10 = (q : Int) := by omega
    have hu64 : u < 10000000000000000000 := Nat.lt_of_lt_of_le hu (Nat.le_trans (Nat.pow_le_pow_right (by decide) (Nat.sub_le 19 L.length)) (by decide))
    obtain ⟨v0, hv0⟩ := hD.there p (by omega)
    have hf0 := hD.fz p
    have HD : Hid (DW w L wr) := hD
    have HU : Hid (u < 10 ^ (19 - L.length)) := hu
    have HDE : Hid (Lib.decDigits m = Lib.decDigits u ++ L) := hdec
    have HDD : Hid (u % 10 = d) := hd.symm
    have HQQ : Hid (u / 10 = q) := hq.symm
    have HG : Hid (gk = 19 - L.length) := hg
    have hp24 : (p : Int) < 24 := by omega
    have hp0 : (0 : Int) ≤ (p : Int) := by omega
    have hbl := hD.lt
    clear hD hu hdec hd hq hg
    obtain ⟨W2, hW2⟩ : ∃ W2 : World, W2 = wr.setCell ⟨w.heap.size, p, none⟩ (.int .u8 (48 + (d : Int))) := ⟨_, rfl⟩
    obtain ⟨c8, hc8⟩ : ∃ c8 : UInt8, c8 = UInt8.ofNat (48 + d) := ⟨_, rfl⟩
    have HC8 : Hid (UInt8.ofNat (48 + d) = c8) := hc8.symm
    have HD2 : Hid (DW w (c8 :: L) W2) := by rw [hW2, hc8]; exact HD.out.step p _ _ (ofNat_dig hd10) hp
    have HW2 : Hid (wr.setCell ⟨w.heap.size, p, none⟩ (.int .u8 (48 + (d : Int))) = W2) := hW2.symm
    clear hW2 hc8
    by_cases hq0 : q = 0
    · have hqb : ((q : Int) == 0) = true := by simp [hq0]
      have HF : Hid (Lib.decDigits m = c8 :: L) := by
        have hs : Lib.decDigits u = [c8] := by rw [← HC8.out]; exact dec_small (by have := HQQ.out; omega) HDD.out
        exact (HDE.out.trans (by rw [hs]; rfl) : Lib.decDigits m = c8 :: L)
      have HQ0 : Hid (q = 0) := hq0
      clear hq0
      go_upto_region 11 with (fail)
      rw [HW2.out]
      obtain ⟨p', hp'⟩ : ∃ p' : Nat, p = p' + 1 := ⟨p - 1, by omega⟩
      have hpp : (p : Int) - 1 = (p' : Int) := by omega
      obtain ⟨v1, hv1⟩ := HD2.out.there p' (by omega)
      have hf1 := HD2.out.fz p'
      have HD3 : Hid (DW w (45 :: c8 :: L) (W2.setCell ⟨w.heap.size, p', none⟩ (.int .u8 45))) := HD2.out.step p' 45 45 rfl (by simp only [List.length_cons]; omega)
      have hcv := str_of HD3.out p' (by simp only [List.length_cons]; omega)
      have hq24 : (p' : Int) < 24 := by omega
      have hq240 : (p' : Int) ≤ 24 := by omega
      have hq00 : (0 : Int) ≤ (p' : Int) := by omega
      have hbl2 := HD2.out.lt
      clear hp'
      go_wp2_with fail
      go_ret
      exact ⟨by rw [HIT.out, HF.out]; rfl, HD3.out.below⟩
    · have hqb : ((q : Int) == 0) = false := by simp [hq0]
      have hbig : ¬ u < 10 := by have := HQQ.out; omega
      have hlen : L.length ≤ 17 := by
        have h1 := HU.out
        rcases Nat.lt_or_ge L.length 18 with h | h
        · omega
        · have e : 19 - L.length = 1 := by omega
          rw [e] at h1
          omega
      have hun : q < 10 ^ (19 - (L.length + 1)) := by
        have h1 := HU.out
        rw [show 19 - L.length = (19 - (L.length + 1)) + 1 by omega, Nat.pow_succ] at h1
        have h2 := HQQ.out
        omega
      have HUN : Hid (q < 10 ^ (19 - (L.length + 1))) := hun
      have hbg2 : Lib.decDigits u = Lib.decDigits q ++ [c8] := by rw [← HC8.out]; exact dec_big hbig HDD.out HQQ.out
      have HDN : Hid (Lib.decDigits m = Lib.decDigits q ++ (c8 :: L)) := by
        exact (HDE.out.trans (by rw [hbg2, List.append_assoc]; rfl) : Lib.decDigits m = Lib.decDigits q ++ (c8 :: L))
      clear hun hbg2
      go_wp2_with fail
      rw [HW2.out]
      go_roundg (19 - (L.length + 1))
      case measure => rw [HG.out]; omega
      case rel => exact ⟨q, p - 1, c8 :: L, rfl, congrArg (Value.int .i64) (by omega), by simp only [List.length_cons]; omega, by simp only [List.length_cons]; omega, rfl, HUN.out, HDN.out, HD2.out⟩
end Go.Proofs.YbulkfsekDoor
