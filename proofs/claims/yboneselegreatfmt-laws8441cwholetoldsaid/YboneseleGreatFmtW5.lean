import Derived.Test.YboneseleGreatFmtW4
/-
  WHAT A PARSED VALUE IS GOOD FOR: 'Den eb E F w v b': its method Holds, called with the method value 'e.defined' (e lies in block eb) in whatever later world that meets E and in which the blocks F are as they are in w, gives b.
-/
namespace Go.Proofs.YboneseleGreatFmt
open Go.RowKit

/-- what is asked of E: new blocks leave it, and under it 'defined' answers as D says -/
structure Cls (eb : Nat) (D : List UInt8 → Option Bool) (E : World → Prop) : Prop where
  below : ∀ w w', E w → Below w.heap.size w w' → E w'
  defd : ∀ w nm bv, E w → D nm = some bv → Calls Ybgs.prog 8 #[.pointer (some ⟨eb, 0, none⟩), .string (mk nm)] w fun e w' => e = .returned (.bool bv) ∧ Below w.heap.size w w'

def Den (eb : Nat) (E : World → Prop) (F : List Nat) (w : World) (v : Value) (bv : Bool) : Prop :=
  (∀ k, k ∈ F → k < w.heap.size) ∧ ∃ T x fn y, v = .iface T x ∧ (∀ w, (method 781 T x "Holds").run Ybgs.prog w = .ok (fn, y) w) ∧ (∀ args w, (callFunc fn args).run Ybgs.prog w = .ok (.enter fn args) w) ∧
    ∀ w', (∀ k, k ∈ F → w'.heap[k]? = w.heap[k]?) → E w' →
      Calls Ybgs.prog fn #[y, .func (Fn.func 8) #[.pointer (some ⟨eb, 0, none⟩)] #[]] w' fun e w'' => e = .returned (.bool bv) ∧ Below w'.heap.size w' w''

theorem Den.more {eb : Nat} {E : World → Prop} {F G : List Nat} {w : World} {v : Value} {bv : Bool} (h : Den eb E F w v bv) (hG : ∀ k, k ∈ F → k ∈ G) (hs : ∀ k, k ∈ G → k < w.heap.size) : Den eb E G w v bv := by
  obtain ⟨_, T, x, fn, y, hv, hm, hcf, hc⟩ := h
  exact ⟨hs, T, x, fn, y, hv, hm, hcf, fun w' hF hd => hc w' (fun k hk => hF k (hG k hk)) hd⟩
theorem Den.later {eb : Nat} {E : World → Prop} {F : List Nat} {w w1 : World} {v : Value} {bv : Bool} (h : Den eb E F w v bv) (hs : w.heap.size ≤ w1.heap.size) (hF : ∀ k, k ∈ F → w1.heap[k]? = w.heap[k]?) : Den eb E F w1 v bv := by
  obtain ⟨h0, T, x, fn, y, hv, hm, hcf, hc⟩ := h
  exact ⟨fun k hk => Nat.lt_of_lt_of_le (h0 k hk) hs, T, x, fn, y, hv, hm, hcf, fun w' hF' hd => hc w' (fun k hk => (hF' k hk).trans (hF k hk)) hd⟩

theorem lt_of_same {w w' : World} {k : Nat} (hk : k < w.heap.size) (h : w'.heap[k]? = w.heap[k]?) : k < w'.heap.size := by
  rcases Nat.lt_or_ge k w'.heap.size with h' | h'
  · exact h'
  · rw [Array.getElem?_eq_none h', Array.getElem?_eq_getElem hk] at h; cases h

theorem cf61 (args : Array Value) (w : World) : (callFunc 61 args).run Ybgs.prog w = .ok (.enter 61 args) w := by kernel_rfl
theorem cf60 (args : Array Value) (w : World) : (callFunc 60 args).run Ybgs.prog w = .ok (.enter 60 args) w := by kernel_rfl
theorem cf59 (args : Array Value) (w : World) : (callFunc 59 args).run Ybgs.prog w = .ok (.enter 59 args) w := by kernel_rfl
theorem cf58 (args : Array Value) (w : World) : (callFunc 58 args).run Ybgs.prog w = .ok (.enter 58 args) w := by kernel_rfl
theorem m_name (x : ByteArray) (w : World) : (method 781 108 (.string x) "Holds").run Ybgs.prog w = .ok (61, .string x) w := by kernel_rfl
theorem m_not (x : Value) (w : World) : (method 781 103 (.agg #[x]) "Holds").run Ybgs.prog w = .ok (60, .agg #[x]) w := by kernel_rfl
theorem m_and (a : Option Addr) (n c : Nat) (w : World) : (method 781 101 (.slice a n c) "Holds").run Ybgs.prog w = .ok (59, .slice a n c) w := by kernel_rfl
theorem m_or (a : Option Addr) (n c : Nat) (w : World) : (method 781 99 (.slice a n c) "Holds").run Ybgs.prog w = .ok (58, .slice a n c) w := by kernel_rfl

set_option maxRecDepth 100000 in
set_option maxHeartbeats 400000 in
theorem hold_nm {eb : Nat} {D : List UInt8 → Option Bool} {E : World → Prop} (hC : Cls eb D E) (nm : List UInt8) (bv : Bool) (h : D nm = some bv) (w : World) (hE : E w) :
    Calls Ybgs.prog 61 #[.string (mk nm), .func (Fn.func 8) #[.pointer (some ⟨eb, 0, none⟩)] #[]] w fun e w' => e = .returned (.bool bv) ∧ Below w.heap.size w w' := by
  have HC : Hid (Calls _ _ _ _ _) := hC.defd w nm bv hE h
  clear hC h hE
  go_enter Ybgs.func61, Ybgs.ntmps61
  go_wp2_with fail
  refine HC.out.mono ?_
  rintro e w' ⟨rfl, hb⟩
  have HB : Hid (Below w.heap.size w w') := hb
  clear hb
  go_wp2_with fail
  go_ret
  exact ⟨rfl, HB.out⟩

theorem den_name {eb : Nat} {D : List UInt8 → Option Bool} {E : World → Prop} (hC : Cls eb D E) (nm : List UInt8) (bv : Bool) (h : D nm = some bv) (w : World) : Den eb E [] w (.iface 108 (.string (mk nm))) bv :=
  ⟨fun _ h => (List.not_mem_nil h).elim, 108, _, 61, _, rfl, m_name _, cf61, fun w' _ hd => hold_nm hC nm bv h w' hd⟩

set_option maxRecDepth 100000 in
set_option maxHeartbeats 400000 in
theorem hold_nt {eb : Nat} {D : List UInt8 → Option Bool} {E : World → Prop} (hC : Cls eb D E) (F : List Nat) (w : World) (v : Value) (bv : Bool) (h : Den eb E F w v bv) (w' : World) (hF : ∀ k, k ∈ F → w'.heap[k]? = w.heap[k]?) (hd : E w') :
    Calls Ybgs.prog 60 #[.agg #[v], .func (Fn.func 8) #[.pointer (some ⟨eb, 0, none⟩)] #[]] w' fun e w'' => e = .returned (.bool (!bv)) ∧ Below w'.heap.size w' w'' := by
  obtain ⟨h0, T, x, fn, y, rfl, hm, hcf, hc⟩ := h
  have hc' := hc (w'.alloc (.cells #[.iface T x] 103)) (fun k hk => by rw [Below.heap_alloc _ _ _ (lt_of_same (h0 k hk) (hF k hk))]; exact hF k hk) (hC.below _ _ hd ((Below.refl _ _).alloc (Nat.le_refl _) _))
  have HC : Hid (Calls _ _ _ _ _) := hc'
  clear hc hc' hF h0 hd hC
  go_enter Ybgs.func60, Ybgs.ntmps60
  go_wp2_with fail
  refine HC.out.mono ?_
  rintro e w'' ⟨rfl, hbl⟩
  go_wp2_with fail
  go_ret
  exact ⟨rfl, ((Below.refl _ _).alloc (Nat.le_refl _) _).trans (hbl.mono (by simp))⟩
theorem den_not {eb : Nat} {D : List UInt8 → Option Bool} {E : World → Prop} (hC : Cls eb D E) {F : List Nat} {w : World} {v : Value} {bv : Bool} (h : Den eb E F w v bv) : Den eb E F w (.iface 103 (.agg #[v])) (!bv) :=
  ⟨h.1, 103, _, 60, _, rfl, m_not v, cf60, fun w' hF hd => hold_nt hC F w v bv h w' hF hd⟩

end Go.Proofs.YboneseleGreatFmt
