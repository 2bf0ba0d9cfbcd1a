import Derived.Test.YboneseleGreatFmtW5
namespace Go.Proofs.YboneseleGreatFmt
open Go.RowKit

/-- the row of a chain of terms: block g holds the values of ps, each of which is good for its bool -/
structure Terms (eb : Nat) (E : World → Prop) (F : List Nat) (g : Nat) (w : World) (ps : List (Value × Bool)) : Prop where
  inF : g ∈ F
  len : ps.length ≤ 1073741824
  cells : ∀ k p, ps[k]? = some p → w.cell? ⟨g, k, none⟩ = some p.1
  den : ∀ p, p ∈ ps → Den eb E F w p.1 p.2

theorem cell_same {w w' : World} {g : Nat} (h : w'.heap[g]? = w.heap[g]?) (o : Nat) : w'.cell? ⟨g, o, none⟩ = w.cell? ⟨g, o, none⟩ := World.cell?_of_block (w := w) h

theorem all_snoc (ps : List (Value × Bool)) (k : Nat) (p : Value × Bool) (h : ps[k]? = some p) (ht : (ps.take k).all (·.2) = true) (hp : p.2 = true) : (ps.take (k + 1)).all (·.2) = true := by
  have hk : k < ps.length := (List.getElem?_eq_some_iff.1 h).1
  have e : ps[k] = p := (List.getElem?_eq_some_iff.1 h).2
  rw [List.take_succ_eq_append_getElem hk, List.all_append, ht, e]; simp [hp]
theorem all_false (ps : List (Value × Bool)) (p : Value × Bool) (h : p ∈ ps) (hp : p.2 = false) : ps.all (·.2) = false := by
  rw [Bool.eq_false_iff]
  intro ht
  have := List.all_eq_true.1 ht p h
  rw [hp] at this; cases this
theorem any_snoc (ps : List (Value × Bool)) (k : Nat) (p : Value × Bool) (h : ps[k]? = some p) (ht : (ps.take k).any (·.2) = false) (hp : p.2 = false) : (ps.take (k + 1)).any (·.2) = false := by
  have hk : k < ps.length := (List.getElem?_eq_some_iff.1 h).1
  have e : ps[k] = p := (List.getElem?_eq_some_iff.1 h).2
  rw [List.take_succ_eq_append_getElem hk, List.any_append, ht, e]; simp [hp]
theorem any_true (ps : List (Value × Bool)) (p : Value × Bool) (h : p ∈ ps) (hp : p.2 = true) : ps.any (·.2) = true := List.any_eq_true.2 ⟨p, h, hp⟩

set_option maxRecDepth 100000 in
set_option maxHeartbeats 800000 in
theorem hold_an {eb : Nat} {D : List UInt8 → Option Bool} {E : World → Prop} (hC : Cls eb D E) (F : List Nat) (g cap : Nat) (w : World) (ps : List (Value × Bool)) (h : Terms eb E F g w ps) (w' : World) (hF : ∀ k, k ∈ F → w'.heap[k]? = w.heap[k]?) (hd : E w') :
    Calls Ybgs.prog 59 #[.slice (some ⟨g, 0, none⟩) ps.length cap, .func (Fn.func 8) #[.pointer (some ⟨eb, 0, none⟩)] #[]] w' fun e w'' => e = .returned (.bool (ps.all (·.2))) ∧ Below w'.heap.size w' w'' := by
  have hlen := h.len
  obtain ⟨n, hn⟩ : ∃ n, n = ps.length := ⟨_, rfl⟩
  rw [← hn] at hlen ⊢
  have HN : Hid (n = ps.length) := hn
  clear hn
  have HH : Hid (Terms eb E F g w ps) := h
  have HF : Hid (∀ k, k ∈ F → w'.heap[k]? = w.heap[k]?) := hF
  have HD : Hid (E w') := hd
  have HCC : Hid (Cls eb D E) := hC
  clear h hF hd hC
  go_enter Ybgs.func59, Ybgs.ntmps59
  go_wp2_with fail
  go_loopg [6, 9] n (fun gg x t wr => ∃ k : Nat, k ≤ n ∧ gg = n - k ∧ t = .int .i64 k ∧ (ps.take k).all (·.2) = true ∧ Below w'.heap.size w' wr)
  case atStart => exact ⟨0, Nat.zero_le _, rfl, rfl, by simp, Below.refl _ _⟩
  case round =>
    obtain ⟨k, hk, hg, rfl, hall, hbl⟩ := hrel
    have HG : Hid (gk = n - k) := hg
    have HA : Hid ((ps.take k).all (·.2) = true) := hall
    have HBL : Hid (Below w'.heap.size w' wr) := hbl
    clear hg hall hbl
    by_cases hlt : k < n
    · have hkp : k < ps.length := by have := HN.out; omega
      obtain ⟨p, hp⟩ : ∃ p, ps[k]? = some p := ⟨ps[k], by simp [hkp]⟩
      have hmem : p ∈ ps := List.mem_of_getElem? hp
      have HP : Hid (ps[k]? = some p) := hp
      have HM : Hid (p ∈ ps) := hmem
      have same : ∀ j, j ∈ F → wr.heap[j]? = w.heap[j]? := fun j hj => by
        have h1 := (HH.out.den p HM.out).1 j hj
        rw [HBL.out.block j (lt_of_same h1 (HF.out j hj))]; exact HF.out j hj
      have hcell : wr.cell? ⟨g, k, none⟩ = some p.1 := by
        rw [cell_same (same g HH.out.inF)]; exact HH.out.cells k p HP.out
      obtain ⟨h0, T, x, fn, y, hv, hm, hcf, hc⟩ := HH.out.den p HM.out
      have hc' := hc wr same (HCC.out.below _ _ HD.out HBL.out)
      have HC : Hid (Calls _ _ _ _ _) := hc'
      rw [hv] at hcell
      clear hc hc' h0 same hp hmem hv hkp
      cases hbv : p.2 with
      | true =>
        rw [hbv] at HC
        have HV : Hid (p.2 = true) := hbv
        clear hbv
        go_wp2_with fail
        refine HC.out.mono ?_
        rintro e w2 ⟨rfl, hb2⟩
        go_wp2_with fail
        go_roundg (n - (k + 1))
        case measure => rw [HG.out]; omega
        case rel => exact ⟨k + 1, by omega, rfl, by go_num, all_snoc ps k p HP.out HA.out HV.out, HBL.out.trans (hb2.mono HBL.out.size)⟩
      | false =>
        rw [hbv] at HC
        have HV : Hid (p.2 = false) := hbv
        clear hbv
        go_wp2_with fail
        refine HC.out.mono ?_
        rintro e w2 ⟨rfl, hb2⟩
        go_wp2_with fail
        go_ret
        exact ⟨ret_bool (all_false ps p HM.out HV.out).symm, HBL.out.trans (hb2.mono HBL.out.size)⟩
    · go_wp2_with fail
      go_ret
      exact ⟨ret_bool (by have := HA.out; rw [List.take_of_length_le (by have := HN.out; omega)] at this; rw [this]), HBL.out⟩

theorem den_and {eb : Nat} {D : List UInt8 → Option Bool} {E : World → Prop} (hC : Cls eb D E) {F : List Nat} {g cap : Nat} {w : World} {ps : List (Value × Bool)} (h : Terms eb E F g w ps) (hF : ∀ k, k ∈ F → k < w.heap.size) : Den eb E F w (.iface 101 (.slice (some ⟨g, 0, none⟩) ps.length cap)) (ps.all (·.2)) :=
  ⟨hF, 101, _, 59, _, rfl, m_and _ _ _, cf59, fun w' hF hd => hold_an hC F g cap w ps h w' hF hd⟩

set_option maxRecDepth 100000 in
set_option maxHeartbeats 800000 in
theorem hold_or {eb : Nat} {D : List UInt8 → Option Bool} {E : World → Prop} (hC : Cls eb D E) (F : List Nat) (g cap : Nat) (w : World) (ps : List (Value × Bool)) (h : Terms eb E F g w ps) (w' : World) (hF : ∀ k, k ∈ F → w'.heap[k]? = w.heap[k]?) (hd : E w') :
    Calls Ybgs.prog 58 #[.slice (some ⟨g, 0, none⟩) ps.length cap, .func (Fn.func 8) #[.pointer (some ⟨eb, 0, none⟩)] #[]] w' fun e w'' => e = .returned (.bool (ps.any (·.2))) ∧ Below w'.heap.size w' w'' := by
  have hlen := h.len
  obtain ⟨n, hn⟩ : ∃ n, n = ps.length := ⟨_, rfl⟩
  rw [← hn] at hlen ⊢
  have HN : Hid (n = ps.length) := hn
  clear hn
  have HH : Hid (Terms eb E F g w ps) := h
  have HF : Hid (∀ k, k ∈ F → w'.heap[k]? = w.heap[k]?) := hF
  have HD : Hid (E w') := hd
  have HCC : Hid (Cls eb D E) := hC
  clear h hF hd hC
  go_enter Ybgs.func58, Ybgs.ntmps58
  go_wp2_with fail
  go_loopg [6, 9] n (fun gg x t wr => ∃ k : Nat, k ≤ n ∧ gg = n - k ∧ t = .int .i64 k ∧ (ps.take k).any (·.2) = false ∧ Below w'.heap.size w' wr)
  case atStart => exact ⟨0, Nat.zero_le _, rfl, rfl, by simp, Below.refl _ _⟩
  case round =>
    obtain ⟨k, hk, hg, rfl, hall, hbl⟩ := hrel
    have HG : Hid (gk = n - k) := hg
    have HA : Hid ((ps.take k).any (·.2) = false) := hall
    have HBL : Hid (Below w'.heap.size w' wr) := hbl
    clear hg hall hbl
    by_cases hlt : k < n
    · have hkp : k < ps.length := by have := HN.out; omega
      obtain ⟨p, hp⟩ : ∃ p, ps[k]? = some p := ⟨ps[k], by simp [hkp]⟩
      have hmem : p ∈ ps := List.mem_of_getElem? hp
      have HP : Hid (ps[k]? = some p) := hp
      have HM : Hid (p ∈ ps) := hmem
      have same : ∀ j, j ∈ F → wr.heap[j]? = w.heap[j]? := fun j hj => by
        have h1 := (HH.out.den p HM.out).1 j hj
        rw [HBL.out.block j (lt_of_same h1 (HF.out j hj))]; exact HF.out j hj
      have hcell : wr.cell? ⟨g, k, none⟩ = some p.1 := by
        rw [cell_same (same g HH.out.inF)]; exact HH.out.cells k p HP.out
      obtain ⟨h0, T, x, fn, y, hv, hm, hcf, hc⟩ := HH.out.den p HM.out
      have hc' := hc wr same (HCC.out.below _ _ HD.out HBL.out)
      have HC : Hid (Calls _ _ _ _ _) := hc'
      rw [hv] at hcell
      clear hc hc' h0 same hp hmem hv hkp
      cases hbv : p.2 with
      | true =>
        rw [hbv] at HC
        have HV : Hid (p.2 = true) := hbv
        clear hbv
        go_wp2_with fail
        refine HC.out.mono ?_
        rintro e w2 ⟨rfl, hb2⟩
        go_wp2_with fail
        go_ret
        exact ⟨ret_bool (any_true ps p HM.out HV.out).symm, HBL.out.trans (hb2.mono HBL.out.size)⟩
      | false =>
        rw [hbv] at HC
        have HV : Hid (p.2 = false) := hbv
        clear hbv
        go_wp2_with fail
        refine HC.out.mono ?_
        rintro e w2 ⟨rfl, hb2⟩
        go_wp2_with fail
        go_roundg (n - (k + 1))
        case measure => rw [HG.out]; omega
        case rel => exact ⟨k + 1, by omega, rfl, by go_num, any_snoc ps k p HP.out HA.out HV.out, HBL.out.trans (hb2.mono HBL.out.size)⟩
    · go_wp2_with fail
      go_ret
      exact ⟨ret_bool (by have := HA.out; rw [List.take_of_length_le (by have := HN.out; omega)] at this; rw [this]), HBL.out⟩

theorem den_or {eb : Nat} {D : List UInt8 → Option Bool} {E : World → Prop} (hC : Cls eb D E) {F : List Nat} {g cap : Nat} {w : World} {ps : List (Value × Bool)} (h : Terms eb E F g w ps) (hF : ∀ k, k ∈ F → k < w.heap.size) : Den eb E F w (.iface 99 (.slice (some ⟨g, 0, none⟩) ps.length cap)) (ps.any (·.2)) :=
  ⟨hF, 99, _, 58, _, rfl, m_or _ _ _, cf58, fun w' hF hd => hold_or hC F g cap w ps h w' hF hd⟩

end Go.Proofs.YboneseleGreatFmt
