import Derived.Test.YbulkfsekDoorWc
import Derived.Laws.AppendOwn
import Derived.Laws.OwnMore
import Derived.Lib.SliceRun
/-
  slices.Clone AND slices.Equal AT THE EVENTS.
-/
namespace Go.Proofs.YbulkfsekDoor
open Go.RowKit Go.WideMaps Go.Maps

def evL (ep ek em : Nat → ByteArray) (i : Nat) : List Value := [.string (ep i), .string ⟨#[101]⟩, .string (ek i), .string (em i)]
def flat (ep ek em : Nat → ByteArray) (n : Nat) : List Value := (List.range n).flatMap (evL ep ek em)

section
variable (ep ek em : Nat → ByteArray)
theorem flat_succ (n : Nat) : flat ep ek em (n + 1) = flat ep ek em n ++ evL ep ek em n := by
  simp [flat, List.range_succ]
theorem flat_len : ∀ n, (flat ep ek em n).length = n * 4
  | 0 => rfl
  | n + 1 => by rw [flat_succ, List.length_append, flat_len n]; simp [evL]; omega
theorem flat_at : ∀ n i f, i < n → f < 4 → (flat ep ek em n)[i * 4 + f]? = (evL ep ek em i)[f]?
  | 0, _, _, h, _ => by omega
  | n + 1, i, f, h, hf => by
    rw [flat_succ]
    by_cases hi : i < n
    · rw [List.getElem?_append_left (by rw [flat_len]; omega)]
      exact flat_at n i f hi hf
    · obtain rfl : i = n := by omega
      rw [List.getElem?_append_right (by rw [flat_len]; omega), flat_len]
      congr 1; omega
theorem flat_one (n : Nat) : ∀ u ∈ flat ep ek em n, u.oneCell' = true := by
  intro u hu
  simp only [flat, List.mem_flatMap, List.mem_range, evL, List.mem_cons, List.not_mem_nil, or_false] at hu
  obtain ⟨i, _, rfl | rfl | rfl | rfl⟩ := hu <;> rfl
theorem EV.flat {w : World} {eb n : Nat} (h : EV w eb n ep ek em) (j : Nat) (u : Value) (hj : (flat ep ek em n)[j]? = some u) : w.cell? ⟨eb, j, none⟩ = some u := by
  have hl := (List.getElem?_eq_some_iff.1 hj).1
  rw [flat_len] at hl
  have hd : j / 4 < n := by omega
  have hm : j % 4 < 4 := Nat.mod_lt _ (by decide)
  have e : j / 4 * 4 + j % 4 = j := by omega
  have h1 := flat_at ep ek em n (j / 4) (j % 4) hd hm
  rw [e, hj] at h1
  obtain ⟨c0, c1, c2, c3⟩ := h (j / 4) hd
  generalize hq : j / 4 = q at *
  generalize hr : j % 4 = r at *
  subst e
  match r, hm with
  | 0, _ => simp [evL] at h1; subst h1; exact c0
  | 1, _ => simp [evL] at h1; subst h1; exact c1
  | 2, _ => simp [evL] at h1; subst h1; exact c2
  | 3, _ => simp [evL] at h1; subst h1; exact c3
theorem EV.of_flat {w : World} {eb n : Nat} (h : ∀ j, j < n * 4 → w.cell? ⟨eb, j, none⟩ = (YbulkfsekDoor.flat ep ek em n)[j]?) : EV w eb n ep ek em := by
  intro i hi
  refine ⟨?_, ?_, ?_, ?_⟩
  · have := flat_at ep ek em n i 0 hi (by decide)
    rw [Nat.add_zero] at this
    rw [h _ (by omega), this]; rfl
  · rw [h _ (by omega), flat_at ep ek em n i 1 hi (by decide)]; rfl
  · rw [h _ (by omega), flat_at ep ek em n i 2 hi (by decide)]; rfl
  · rw [h _ (by omega), flat_at ep ek em n i 3 hi (by decide)]; rfl
end

def ClonePost (w : World) (n : Nat) (ep ek em : Nat → ByteArray) (e : Ending) (w' : World) : Prop := ∃ kb cap, e = .returned (.slice (some ⟨kb, 0, none⟩) n cap) ∧ w.heap.size ≤ kb ∧ kb < w'.heap.size ∧ n ≤ cap ∧ EV w' kb n ep ek em ∧ Below w.heap.size w w'

theorem nil_slice (w : World) (a : Option Addr) (n c n' c' : Nat) : (binOp .eql 26 (.slice a n c) (.slice none n' c')).run Ybad.prog w = .ok (.bool a.isNone) w := Lib.run_eql_slice_nil w _ _ a n c n' c' Ybad.underlying26

set_option maxRecDepth 100000 in
set_option maxHeartbeats 2000000 in
theorem clone_any (w : World) (eb n : Nat) (ep ek em : Nat → ByteArray) (hn : n ≤ 4096) (hE : EV w eb n ep ek em) : Calls Ybad.prog 10 #[.slice (some ⟨eb, 0, none⟩) n n] w (ClonePost w n ep ek em) := by
  obtain ⟨i0, hi0, hz0, hz1, hz2⟩ := info_parts info33
  have q26 := nil_slice
  have HE : Hid (EV w eb n ep ek em) := hE
  clear hE
  go_enter Ybad.func10, Ybad.ntmps10
  go_wp2_with (at_builtin; refine wpList_append_own _ rfl _ _ 26 rfl w.heap.size 33 i0 _ 4 64 Ybad.underlying26 hi0 hz0 hz1 hz2 rfl (by decide) _ _ _ rfl (World.ownsRow_made w #[] 0 (Nat.le_refl _) (Nat.zero_le _) (by simp)) ⟨eb, 0, none⟩ n n (flat ep ek em n) rfl ?qc1 ?qc2 ?qc3 ?qc4 ?qc5 ?qc6 ?_)
  case qc1 => exact flat_len ep ek em n
  case qc2 =>
    intro j u hj
    rw [Addr.add_lit, Nat.zero_add]
    exact cell_old _ (HE.out.flat ep ek em j u hj)
  case qc3 => exact flat_one ep ek em n
  case qc4 => rw [Nat.zero_add]; unfold maxLen; omega
  case qc5 => rw [Nat.zero_add]; omega
  case qc6 => simp
  intro v' w1 hown hgrow hnil
  have HO : Hid (w1.ownsRow w.heap.size 33 4 v' n (flat ep ek em n)) := hown
  have HG : Hid (Below w.heap.size w w1) := ((Below.refl _ w).alloc (Nat.le_refl _) _).grown hgrow (by simp) (by intro k hk; simp [Value.ownBlock] at hk; omega)
  have HN : Hid (v' ≠ .slice none 0 0) := hnil
  clear hown hgrow hnil
  go_wp2_with fail
  go_ret
  have ho := HO.out
  obtain ⟨hl, ⟨e, _⟩ | ⟨g, cap, cur, rfl, hb, hg, hc, hm, hs, ht⟩⟩ := ho
  · exact absurd e HN.out
  · refine ⟨g, cap, rfl, hb, (Array.getElem?_eq_some_iff.1 hg).1, hc, EV.of_flat ep ek em (fun j hj => ?_), HG.out⟩
    have ho2 : w1.ownsRow w.heap.size 33 4 (.slice (some ⟨g, 0, none⟩) n cap) n (flat ep ek em n) := ⟨hl, Or.inr ⟨g, cap, cur, rfl, hb, hg, hc, hm, hs, ht⟩⟩
    exact ho2.cellAt j hj

set_option maxRecDepth 100000 in
set_option maxHeartbeats 2000000 in
theorem equal_any (w : World) (eb kb n cap : Nat) (ep ek em : Nat → ByteArray) (hn : n ≤ 4096) (hE : EV w eb n ep ek em) (hK : EV w kb n ep ek em) : Calls Ybad.prog 12 #[.slice (some ⟨eb, 0, none⟩) n n, .slice (some ⟨kb, 0, none⟩) n cap] w (fun e w' => e = .returned (.bool true) ∧ ∃ q, w' = w.drewN q) := by
  have HE : Hid (EV w eb n ep ek em) := hE
  have HK : Hid (EV w kb n ep ek em) := hK
  clear hE hK
  go_enter Ybad.func12, Ybad.ntmps12
  go_wp2_with fail
  go_loopg [13] n (fun g s13 wr => ∃ k q : Nat, k ≤ n ∧ g = n - k ∧ s13 = .int .i64 k ∧ wr = w.drewN q)
  case atStart => exact ⟨0, 0, by omega, rfl, rfl, rfl⟩
  case round =>
    obtain ⟨k, q, hk, hg, rfl, rfl⟩ := hrel
    have HG : Hid (gk = n - k) := hg
    clear hg
    by_cases hlt : k < n
    · have hki : (k : Int) < (n : Int) := by omega
      obtain ⟨e0, e1, e2, e3⟩ := HE.out k hlt
      obtain ⟨k0, k1, k2, k3⟩ := HK.out k hlt
      go_wp2_with fail
      go_quiet (fail)
      go_wp2_with fail
      go_roundg (n - (k + 1))
      case measure => rw [HG.out]; omega
      case rel => exact ⟨k + 1, _, by omega, rfl, by go_num, rfl⟩
    · obtain rfl : k = n := by omega
      have hki : ¬ (k : Int) < (k : Int) := by omega
      go_wp2_with fail
      go_ret
      exact ⟨rfl, q, rfl⟩
end Go.Proofs.YbulkfsekDoor
