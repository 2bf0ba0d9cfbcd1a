import Derived.Test.YbulkfrueFmtW4
/-
  WHAT A PARSED VALUE IS GOOD FOR: 'Den dv F w v b': its method Holds, called with the law's closure in whatever later world in which the blocks F are as they are in w, gives b.
-/
namespace Go.Proofs.YbulkfrueFmt
open Go.RowKit

/-- bit i of dv, as the Go text reckons it -/
def dfB (dv i : Nat) : Bool := bits BinOp.and IntKind.u8 ((dv : Int) / 2 ^ i) 1 == 1

def Den (dv : Nat) (F : List Nat) (w : World) (v : Value) (bv : Bool) : Prop :=
  (∀ k, k ∈ F → k < w.heap.size) ∧ ∃ T x fn y, v = .iface T x ∧ (∀ w, (method 183 T x "Holds").run Ybaf.prog w = .ok (fn, y) w) ∧ (∀ args w, (callFunc fn args).run Ybaf.prog w = .ok (.enter fn args) w) ∧
    ∀ w' bD bB, (∀ k, k ∈ F → w'.heap[k]? = w.heap[k]?) → w'.cell? ⟨bD, 0, none⟩ = some (.int .u8 (dv : Int)) →
      Calls Ybaf.prog fn #[y, .func (Fn.func 8) #[] #[.pointer (some ⟨bD, 0, none⟩), .pointer (some ⟨bB, 0, none⟩)]] w' fun e w'' => e = .returned (.bool bv) ∧ Below w'.heap.size w' w''

theorem Den.more {dv : Nat} {F G : List Nat} {w : World} {v : Value} {bv : Bool} (h : Den dv F w v bv) (hG : ∀ k, k ∈ F → k ∈ G) (hs : ∀ k, k ∈ G → k < w.heap.size) : Den dv G w v bv := by
  obtain ⟨_, T, x, fn, y, hv, hm, hcf, hc⟩ := h
  exact ⟨hs, T, x, fn, y, hv, hm, hcf, fun w' bD bB hF hd => hc w' bD bB (fun k hk => hF k (hG k hk)) hd⟩
theorem Den.later {dv : Nat} {F : List Nat} {w w1 : World} {v : Value} {bv : Bool} (h : Den dv F w v bv) (hs : w.heap.size ≤ w1.heap.size) (hF : ∀ k, k ∈ F → w1.heap[k]? = w.heap[k]?) : Den dv F w1 v bv := by
  obtain ⟨h0, T, x, fn, y, hv, hm, hcf, hc⟩ := h
  exact ⟨fun k hk => Nat.lt_of_lt_of_le (h0 k hk) hs, T, x, fn, y, hv, hm, hcf, fun w' bD bB hF' hd => hc w' bD bB (fun k hk => (hF' k hk).trans (hF k hk)) hd⟩

theorem lt_of_same {w w' : World} {k : Nat} (hk : k < w.heap.size) (h : w'.heap[k]? = w.heap[k]?) : k < w'.heap.size := by
  rcases Nat.lt_or_ge k w'.heap.size with h' | h'
  · exact h'
  · rw [Array.getElem?_eq_none h', Array.getElem?_eq_getElem hk] at h; cases h

theorem nm_eq (k i : Nat) (hk : k < 4) (hi : i < 4) : ((mk (Pl.nmL k)).toList == (mk (Pl.nmL i)).toList) = decide (i = k) := by
  rw [Lib.toList_data, Lib.toList_data]
  match k, hk, i, hi with
  | 0, _, 0, _ => rfl
  | 0, _, 1, _ => rfl
  | 0, _, 2, _ => rfl
  | 0, _, 3, _ => rfl
  | 1, _, 0, _ => rfl
  | 1, _, 1, _ => rfl
  | 1, _, 2, _ => rfl
  | 1, _, 3, _ => rfl
  | 2, _, 0, _ => rfl
  | 2, _, 1, _ => rfl
  | 2, _, 2, _ => rfl
  | 2, _, 3, _ => rfl
  | 3, _, 0, _ => rfl
  | 3, _, 1, _ => rfl
  | 3, _, 2, _ => rfl
  | 3, _, 3, _ => rfl

set_option maxHeartbeats 400000 in
theorem clos_any (dv k : Nat) (hk : k < 4) (_hdv : dv < 256) (w : World) (bD bB : Nat) (hc : w.cell? ⟨bD, 0, none⟩ = some (.int .u8 (dv : Int))) :
    Calls Ybaf.prog 8 #[.string (mk (Pl.nmL k)), .pointer (some ⟨bD, 0, none⟩), .pointer (some ⟨bB, 0, none⟩)] w fun e w' => e = .returned (.bool (dfB dv k)) ∧ w' = w := by
  go_enter Ybaf.func8, Ybaf.ntmps8
  go_wp2_with fail
  go_loop [5] (fun t => ∃ i : Nat, i ≤ k ∧ t = .int .i64 i) (fun t => k - (intOf t).toNat)
  case atStart => exact ⟨0, Nat.zero_le _, rfl⟩
  case round =>
    obtain ⟨i, hi, rfl⟩ := hrel
    have e := nm_eq k i hk (by omega)
    by_cases h : i = k
    · simp only [h, decide_true] at e
      subst h
      go_wp2_with fail
      refine (nm_any i _).mono ?_
      rintro e w' ⟨rfl, rfl⟩
      go_wp2_with fail
      go_ret
      exact ⟨rfl, rfl⟩
    · simp only [h, decide_false] at e
      have h' : i < k := by omega
      clear h
      go_wp2_with fail
      refine (nm_any i _).mono ?_
      rintro e w' ⟨rfl, rfl⟩
      go_wp2_with fail
      go_round
      case rel => exact ⟨i + 1, by omega, by go_num⟩
      case measure => simp [intOf]; omega

theorem cf44 (args : Array Value) (w : World) : (callFunc 44 args).run Ybaf.prog w = .ok (.enter 44 args) w := by kernel_rfl
theorem cf43 (args : Array Value) (w : World) : (callFunc 43 args).run Ybaf.prog w = .ok (.enter 43 args) w := by kernel_rfl
theorem cf42 (args : Array Value) (w : World) : (callFunc 42 args).run Ybaf.prog w = .ok (.enter 42 args) w := by kernel_rfl
theorem cf41 (args : Array Value) (w : World) : (callFunc 41 args).run Ybaf.prog w = .ok (.enter 41 args) w := by kernel_rfl
theorem m_name (x : ByteArray) (w : World) : (method 183 65 (.string x) "Holds").run Ybaf.prog w = .ok (44, .string x) w := by kernel_rfl
theorem m_not (x : Value) (w : World) : (method 183 60 (.agg #[x]) "Holds").run Ybaf.prog w = .ok (43, .agg #[x]) w := by kernel_rfl
theorem m_and (a : Option Addr) (n c : Nat) (w : World) : (method 183 58 (.slice a n c) "Holds").run Ybaf.prog w = .ok (42, .slice a n c) w := by kernel_rfl
theorem m_or (a : Option Addr) (n c : Nat) (w : World) : (method 183 56 (.slice a n c) "Holds").run Ybaf.prog w = .ok (41, .slice a n c) w := by kernel_rfl

set_option maxHeartbeats 400000 in
theorem hold_nm (dv k : Nat) (hk : k < 4) (hdv : dv < 256) (w : World) (bD bB : Nat) (hc : w.cell? ⟨bD, 0, none⟩ = some (.int .u8 (dv : Int))) :
    Calls Ybaf.prog 44 #[.string (mk (Pl.nmL k)), .func (Fn.func 8) #[] #[.pointer (some ⟨bD, 0, none⟩), .pointer (some ⟨bB, 0, none⟩)]] w fun e w' => e = .returned (.bool (dfB dv k)) ∧ Below w.heap.size w w' := by
  go_enter Ybaf.func44, Ybaf.ntmps44
  go_wp2_with fail
  refine (clos_any dv k hk hdv _ bD bB hc).mono ?_
  rintro e w' ⟨rfl, rfl⟩
  go_wp2_with fail
  go_ret
  exact ⟨rfl, Below.refl _ _⟩

theorem den_name (dv : Nat) (hdv : dv < 256) (nm : List UInt8) (bv : Bool) (h : Pl.Dn (dfB dv) nm = some bv) (w : World) : Den dv [] w (.iface 65 (.string (mk nm))) bv := by
  have : ∃ k, k < 4 ∧ nm = Pl.nmL k ∧ bv = dfB dv k := by
    unfold Pl.Dn at h
    split at h
    · rename_i e; injection h with h; exact ⟨0, by omega, e, h.symm⟩
    · split at h
      · rename_i e; injection h with h; exact ⟨1, by omega, e, h.symm⟩
      · split at h
        · rename_i e; injection h with h; exact ⟨2, by omega, e, h.symm⟩
        · split at h
          · rename_i e; injection h with h; exact ⟨3, by omega, e, h.symm⟩
          · cases h
  obtain ⟨k, hk, rfl, rfl⟩ := this
  exact ⟨fun _ h => (List.not_mem_nil h).elim, 65, _, 44, _, rfl, m_name _, cf44, fun w' bD bB _ hd => hold_nm dv k hk hdv w' bD bB hd⟩

set_option maxHeartbeats 400000 in
theorem hold_nt (dv : Nat) (F : List Nat) (w : World) (v : Value) (bv : Bool) (h : Den dv F w v bv) (w' : World) (hF : ∀ k, k ∈ F → w'.heap[k]? = w.heap[k]?) (bD bB : Nat) (hd : w'.cell? ⟨bD, 0, none⟩ = some (.int .u8 (dv : Int))) :
    Calls Ybaf.prog 43 #[.agg #[v], .func (Fn.func 8) #[] #[.pointer (some ⟨bD, 0, none⟩), .pointer (some ⟨bB, 0, none⟩)]] w' fun e w'' => e = .returned (.bool (!bv)) ∧ Below w'.heap.size w' w'' := by
  obtain ⟨h0, T, x, fn, y, rfl, hm, hcf, hc⟩ := h
  have hb := World.block_lt_of_cell? _ _ hd
  have hc' := hc (w'.alloc (.cells #[.iface T x] 60)) bD bB (fun k hk => by rw [Below.heap_alloc _ _ _ (lt_of_same (h0 k hk) (hF k hk))]; exact hF k hk) (by rw [World.cell?_alloc_lt _ _ _ hb]; exact hd)
  have HC : Hid (Calls _ _ _ _ _) := hc'
  clear hc hc' hF h0 hd hb
  go_enter Ybaf.func43, Ybaf.ntmps43
  go_wp2_with fail
  refine HC.out.mono ?_
  rintro e w'' ⟨rfl, hbl⟩
  go_wp2_with fail
  go_ret
  exact ⟨rfl, ((Below.refl _ _).alloc (Nat.le_refl _) _).trans (hbl.mono (by simp))⟩
theorem den_not {dv : Nat} {F : List Nat} {w : World} {v : Value} {bv : Bool} (h : Den dv F w v bv) : Den dv F w (.iface 60 (.agg #[v])) (!bv) :=
  ⟨h.1, 60, _, 43, _, rfl, m_not v, cf43, fun w' bD bB hF hd => hold_nt dv F w v bv h w' hF bD bB hd⟩

end Go.Proofs.YbulkfrueFmt
