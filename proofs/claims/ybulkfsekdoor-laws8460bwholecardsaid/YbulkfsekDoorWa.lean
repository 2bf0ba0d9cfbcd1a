import Derived.Test.YbulkfsekDoorPl
import Derived.WalkKit
import Derived.ProofKit
import Derived.Deep.LoopGhost
import Derived.Deep.DeepCutAuto
import Derived.Laws.MakeOwn
import Derived.Handy
import Derived.WalkSpells
import Derived.WalkLawsBesides
import Derived.Deep.QuietTactic
import Derived.BigQuiet
import Derived.BigRegion
import Derived.Deep.RegionWith
import Derived.Maps.OwnSet
import Derived.Maps.StringElems
/-
  THE SMALL CALLEES; THE MAPS OF CLOCKS.
-/
namespace Go.Proofs.YbulkfsekDoor
open Go.RowKit Go.WideMaps Go.Maps

set_option maxHeartbeats 1000000 in
theorem pr_any (p : Nat) (hp : p < 256) (w : World) : Calls Ybad.prog 7 #[.int .u8 (p : Int)] w fun e w' => e = .returned (.string (Pl.prS p)) ∧ w' = w := by
  unfold Pl.prS
  obtain ⟨r, hr⟩ : ∃ r : Nat, r = p % 3 := ⟨_, rfl⟩
  have hr3 : r < 3 := by omega
  have hi : (p : Int) % 3 = (r : Int) := by omega
  rw [← hr]
  clear hr
  by_cases h0 : r = 0
  · subst h0
    go_enter Ybad.func7, Ybad.ntmps7
    go_wp2
    go_ret
    exact ⟨rfl, rfl⟩
  · by_cases h1 : r = 1
    · subst h1
      go_enter Ybad.func7, Ybad.ntmps7
      go_wp2
      go_ret
      exact ⟨rfl, rfl⟩
    · obtain rfl : r = 2 := by omega
      go_enter Ybad.func7, Ybad.ntmps7
      go_wp2
      go_ret
      exact ⟨rfl, rfl⟩
set_option maxHeartbeats 1000000 in
theorem ms_any (p : Nat) (hp : p < 256) (w : World) : Calls Ybad.prog 9 #[.int .u8 (p : Int)] w fun e w' => e = .returned (.string (Pl.msS p)) ∧ w' = w := by
  unfold Pl.msS
  obtain ⟨r, hr⟩ : ∃ r : Nat, r = p % 3 := ⟨_, rfl⟩
  have hr3 : r < 3 := by omega
  have hi : (p : Int) % 3 = (r : Int) := by omega
  rw [← hr]
  clear hr
  by_cases h0 : r = 0
  · subst h0
    go_enter Ybad.func9, Ybad.ntmps9
    go_wp2
    go_ret
    exact ⟨rfl, rfl⟩
  · by_cases h1 : r = 1
    · subst h1
      go_enter Ybad.func9, Ybad.ntmps9
      go_wp2
      go_ret
      exact ⟨rfl, rfl⟩
    · obtain rfl : r = 2 := by omega
      go_enter Ybad.func9, Ybad.ntmps9
      go_wp2
      go_ret
      exact ⟨rfl, rfl⟩
set_option maxHeartbeats 1000000 in
theorem kd_any (p : Nat) (hp : p < 256) (w : World) : Calls Ybad.prog 8 #[.int .u8 (p : Int)] w fun e w' => e = .returned (.string (Pl.kdS p)) ∧ w' = w := by
  unfold Pl.kdS
  obtain ⟨r, hr⟩ : ∃ r : Nat, r = p % 4 := ⟨_, rfl⟩
  have hr3 : r < 4 := by omega
  have hi : (p : Int) % 4 = (r : Int) := by omega
  rw [← hr]
  clear hr
  by_cases h0 : r = 0
  · subst h0
    go_enter Ybad.func8, Ybad.ntmps8
    go_wp2
    go_ret
    exact ⟨rfl, rfl⟩
  by_cases h1 : r = 1
  · subst h1
    go_enter Ybad.func8, Ybad.ntmps8
    go_wp2
    go_ret
    exact ⟨rfl, rfl⟩
  by_cases h2 : r = 2
  · subst h2
    go_enter Ybad.func8, Ybad.ntmps8
    go_wp2
    go_ret
    exact ⟨rfl, rfl⟩
  · obtain rfl : r = 3 := by omega
    go_enter Ybad.func8, Ybad.ntmps8
    go_wp2
    go_ret
    exact ⟨rfl, rfl⟩

theorem ret_clock {c r m : Nat} (h : max c r = m) : Ending.returned (.tuple #[.int .u64 ((m : Int) + 1), .nilIface]) = .returned (.tuple #[.int .u64 ((max c r + 1 : Nat) : Int), .nilIface]) := by
  rw [h]; rfl
set_option maxHeartbeats 1000000 in
theorem later_any (c r : Nat) (hc : c < 5000) (hr : r < 5000) (w : World) : Calls Ybad.prog 14 #[.int .u64 (c : Int), .int .u64 (r : Int), .int .u64 1] w fun e w' => e = .returned (.tuple #[.int .u64 ((max c r + 1 : Nat) : Int), .nilIface]) ∧ w' = w := by
  go_enter Ybad.func14, Ybad.ntmps14
  go_wp2
  · go_ret2
    exact ⟨ret_clock (by omega), rfl⟩
  · go_ret2
    exact ⟨ret_clock (by omega), rfl⟩

theorem law9 : Keyed Ybad.prog 9 := string_keyed Ybad.underlying9
theorem zero40 (w : World) : (zeroValue 40).run Ybad.prog w = .ok (.int .u64 0) w := by kernel_rfl
theorem key9 (s : ByteArray) (h : s.size ≤ 1000) : keyOf Ybad.prog 9 (.string s) = some (.string s.data.toList) :=
  keyOf_string_mk (P := Ybad.prog) Ybad.underlying9 (s := s) (by unfold maxLen; omega)
theorem keylit (nm : List UInt8) : WideAt.IsKeyLit (.string nm) := by trivial
theorem wf64 (n : Nat) (h : n < 10000) : (Lit.int .u64 (n : Int)).wf = true := by
  simp only [Lit.wf, Bool.and_eq_true, decide_eq_true_eq, show IntKind.min .u64 = 0 from rfl, show IntKind.max .u64 = 18446744073709551615 from rfl]; omega

/-- block b is a map of clocks that holds S -/
def MapAt (w : World) (b n : Nat) (S : ByteArray → Nat) : Prop := ∃ D : DataW Unit, w.ownsMap Ybad.prog 9 (plainElem Ybad.prog 40) b n D ∧ ∀ s : ByteArray, D.atKey (.string s.data.toList) (.lit (.int .u64 0)) = .lit (.int .u64 (S s : Int))

set_option maxRecDepth 100000 in
theorem MapAt.look {w : World} {b n : Nat} {S : ByteArray → Nat} (h : MapAt w b n S) (s : ByteArray) (hl : s.size ≤ 1000) : (Instr.lookup 45 (.map (some b)) (.string s) false).run Ybad.prog w = .ok (.int .u64 (S s : Int)) w := by
  obtain ⟨D, ho, hS⟩ := h
  obtain ⟨v, ps, hrun, hv⟩ := ho.lookup law9 Ybad.underlying45 (zero40 w) (plainElem_int Ybad.underlying40 (by decide)) (key9 s hl)
  rw [hS s] at hv
  obtain ⟨x, rfl, hx, _⟩ := plainElem_int_inv Ybad.underlying40 hv
  injection hx with hx1 hx2
  injection hx1 with hx1
  injection hx1 with _ hx1
  rw [hrun, hx1]
theorem MapAt.kept {w w' : World} {b n : Nat} {S : ByteArray → Nat} {row : Option Nat} (h : MapAt w b n S) (hg : w.grownBy w' row) (hne : some b ≠ row) : MapAt w' b n S := by
  obtain ⟨D, ho, hS⟩ := h
  exact ⟨D, ho.kept hg hne, hS⟩
theorem MapAt.mono {w : World} {b n m : Nat} {S : ByteArray → Nat} (h : MapAt w b n S) (hm : n ≤ m) : MapAt w b m S := by
  obtain ⟨D, ho, hS⟩ := h
  exact ⟨D, ho.mono hm, hS⟩
theorem map_new (w : World) (b : Nat) (hb : b = w.heap.size) : MapAt (w.alloc (.map #[] 0)) b 0 (fun _ => 0) := by
  subst hb
  exact ⟨.map [], World.ownsMap_made w _ _ _, fun _ => rfl⟩
theorem MapAt.alloc {w : World} {b n : Nat} {S : ByteArray → Nat} (h : MapAt w b n S) (o : Obj) : MapAt (w.alloc o) b n S := h.kept (World.grownBy_alloc w o none) (by simp)

theorem wpList_put (w : World) {ops : Array Oper} {rest : List Oper} {o : Oper} {a : Act} {Q : Exit → Act → World → Prop} (hg : o.guard = none) (m x v : Operand) (hop : o.op = Op.mapUpdate 45 m x v)
    (b n : Nat) (S : ByteArray → Nat) (s : ByteArray) (c : Nat) (hm : a.eval m = .map (some b)) (hx : a.eval x = .string s) (hv : a.eval v = .int .u64 (c : Int)) (h : MapAt w b n S) (hn : n < 10000) (hl : s.size ≤ 1000) (hc : c < 10000)
    (hK : ∀ w', MapAt w' b (n + 1) (Pl.upd S s c) → w.grownBy w' (some b) → wpList Ybad.prog ops Q rest (a.put o.dst undef) w') : wpList Ybad.prog ops Q (o :: rest) a w := by
  obtain ⟨D, ho, hS⟩ := h
  refine wpList_mapUpdate_own w hg m x v 45 hop 9 40 law9 Ybad.underlying45 _ b n D hm ho (by unfold maxLen; omega) _ _ _ hx hv (key9 s hl) _ [] (plainElem_int Ybad.underlying40 (wf64 c hc)) ?_
  intro w' ho' hg'
  refine hK w' ⟨_, ho', fun y => ?_⟩ hg'
  unfold Pl.upd
  by_cases hy : y = s
  · subst hy
    rw [atKey_put_same ho.isMap (keylit _)]; simp
  · rw [atKey_put_other (by intro e; injection e with e; exact hy (by cases y; cases s; congr 1; exact Array.toList_inj.1 e)), hS y]; simp [hy]
end Go.Proofs.YbulkfsekDoor
