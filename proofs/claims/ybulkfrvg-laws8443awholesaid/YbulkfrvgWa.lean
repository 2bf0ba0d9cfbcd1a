import Derived.Test.YbulkfrvgRows
import Derived.WalkKit
import Derived.ProofKit
import Derived.Deep.LoopGhost
import Derived.Deep.DeepCutAuto
import Derived.Laws.MakeOwn
import Derived.Handy
import Derived.WalkSpells
import Derived.WalkLawsBesides
import Derived.Deep.QuietTactic
import Derived.BigQuiet
import Derived.BigRegion
import Derived.Deep.RegionWith
/-
  THE CALLEES: zzs8443alot, newLot with room and without; 'make'.
-/
namespace Go.Proofs.Ybulkfrvg
open Go.RowKit

/-- the six cells of the lot at place i -/
def lotL (i : Nat) : List Value := [.string ⟨#[99]⟩, .string ⟨#[110]⟩, .int .i64 (i : Int), .int .i64 ((i : Int) + 1), .int .i64 0, .pointer none]
def zeroL : List Value := [.string ⟨#[]⟩, .string ⟨#[]⟩, .int .i64 0, .int .i64 0, .int .i64 0, .pointer none]

set_option maxRecDepth 100000 in
set_option maxHeartbeats 1000000 in
theorem lot_any (i : Nat) (hi : i < 4096) (w : World) : Calls Yba.prog 4 #[.int .i64 (i : Int)] w fun e w' => e = .returned (.agg #[.string ⟨#[99]⟩, .string ⟨#[110]⟩, .int .i64 (i : Int), .int .i64 ((i : Int) + 1), .int .i64 0, .pointer none]) ∧ w' = w.alloc (.cells #[.string ⟨#[99]⟩, .string ⟨#[110]⟩, .int .i64 (i : Int), .int .i64 ((i : Int) + 1), .int .i64 0, .pointer none] 29) := by
  go_enter Yba.func4, Yba.ntmps4
  go_wp2_with fail
  go_returns
  exact ⟨rfl, rfl⟩

theorem info29 : (Yba.prog.info? 29).map (fun i => (i.zero, i.size, i.bytes)) = some (some (.agg #[.string ⟨#[]⟩, .string ⟨#[]⟩, .int .i64 0, .int .i64 0, .int .i64 0, .pointer none]), 6, 64) := by kernel_rfl

theorem mk_run (w : World) (n : Nat) (hn : n ≤ 4096) : (Instr.makeSlice 23 (.int .i64 (n : Int)) (.int .i64 (n : Int))).run Yba.prog w = .ok (.slice (some ⟨w.heap.size, 0, none⟩) n n) (w.alloc (.cells (madeCells zeroL.toArray (n * 6)) 29)) := by
  obtain ⟨i0, hi0, hz0, hz1, hz2⟩ := info_parts info29
  have := run_makeSlice (P := Yba.prog) w 23 29 i0 _ Yba.underlying23 hi0 hz0 .i64 .i64 (n : Int) (n : Int) (by omega) (Int.le_refl _) (by rw [hz1]; omega) (by rw [hz2]; omega) (by omega)
  rw [hz1] at this
  exact this

structure LW (w : World) (N k : Nat) (wr : World) : Prop where
  below : Below w.heap.size w wr
  fz : ∀ a, wr.frozen? a = w.frozen? a
  lt : w.heap.size < wr.heap.size
  row : ∀ j, j < N → ∀ i v, (if j < k then lotL j else zeroL)[i]? = some v → wr.cell? ⟨w.heap.size, j * 6 + i, none⟩ = some v
theorem at_new {w : World} {c : Array Value} {t : TypeId} {b i : Nat} {v : Value} (hb : b = w.heap.size) (hv : c[i]? = some v) : (w.alloc (.cells c t)).cell? ⟨b, i, none⟩ = some v := by
  subst hb; rw [World.cell?_alloc_new]; exact hv
theorem fz_new {w : World} {c : Array Value} {t : TypeId} {b i : Nat} (hb : b = w.heap.size) : (w.alloc (.cells c t)).frozen? ⟨b, i, none⟩ = false := by
  subst hb; exact World.frozen?_alloc_new _ _ _ _
theorem out_frozen (w : World) (o : Nat) : w.frozen? ⟨w.heap.size, o, none⟩ = false := by simp [World.frozen?]


/-- what newLot leaves where there is room -/
def NR (w : World) (rb b n ex : Nat) (L : List Value) (e : Ending) (w' : World) : Prop := e = .returned (.pointer (some ⟨b, n * 6, none⟩)) ∧ ∃ m0 m, w' = (((((w.alloc (.cells L.toArray 29)).drewN m0).setCells b (n * 6) L).setCell ⟨rb, 12, none⟩ (.slice (some ⟨b, 0, none⟩) (n + 1) (n + ex))).alloc (.cells L.toArray 29)).drewN m
set_option maxRecDepth 100000 in
set_option maxHeartbeats 1000000 in
theorem new_room (w : World) (rb b n ex : Nat) (hx : 0 < ex) (hn : n < 2048) (hx2 : ex < 2048) (hne : rb ≠ b) (hrb : rb < w.heap.size) (hb : b < w.heap.size) (cl nm : ByteArray) (cf rd : Int) (hr : w.cell? ⟨rb, 12, none⟩ = some (.slice (some ⟨b, 0, none⟩) n (n + ex))) (hrf : w.frozen? ⟨rb, 12, none⟩ = false)
  (c0 : w.cell? ⟨b, n * 6, none⟩ = some (.string ⟨#[]⟩)) (c1 : w.cell? ⟨b, n * 6 + 1, none⟩ = some (.string ⟨#[]⟩)) (c2 : w.cell? ⟨b, n * 6 + 2, none⟩ = some (.int .i64 0)) (c3 : w.cell? ⟨b, n * 6 + 3, none⟩ = some (.int .i64 0)) (c4 : w.cell? ⟨b, n * 6 + 4, none⟩ = some (.int .i64 0)) (c5 : w.cell? ⟨b, n * 6 + 5, none⟩ = some (.pointer none))
  (f : ∀ o, w.frozen? ⟨b, o, none⟩ = false) :
   Calls Yba.prog 5 #[.pointer (some ⟨rb, 0, none⟩), .agg #[.string cl, .string nm, .int .i64 cf, .int .i64 rd, .int .i64 0, .pointer none]] w (NR w rb b n ex [.string cl, .string nm, .int .i64 cf, .int .i64 rd, .int .i64 0, .pointer none]) := by
  have f0 := f (n * 6)
  have f1 := f (n * 6 + 1)
  have f2 := f (n * 6 + 2)
  have f3 := f (n * 6 + 3)
  have f4 := f (n * 6 + 4)
  have f5 := f (n * 6 + 5)
  have hneq : ((n : Int) == (n : Int) + (ex : Int)) = false := by simp; omega
  go_enter Yba.func5, Yba.ntmps5
  go_wp2_with fail
  go_quiet (fail)
  go_wp2_with fail
  have hni : (n : Int) < (n : Int) + (ex : Int) := by omega
  have hroom : n + 1 ≤ n + ex := by omega
  go_region
  go_wp2_with fail
  go_quiet (fail)
  go_wp2_with fail
  go_ret
  exact ⟨rfl, _, _, rfl⟩

/-- .. and where there is none: a new block -/
def NF (A : Array Value) (w : World) (rb : Nat) (L : List Value) (e : Ending) (w' : World) : Prop := e = .returned (.pointer (some ⟨w.heap.size + 1, 0, none⟩)) ∧ ∃ m0 m1 m W3, W3 = ((((w.alloc (.cells L.toArray 29)).drewN m0).setCell ⟨rb, 12, none⟩ (.slice (some ⟨w.heap.size + 1, 0, none⟩) 0 1024)).alloc (.cells A 29)) ∧ w' = ((((W3.setCells (w.heap.size + 1) 0 L).setCell ⟨rb, 12, none⟩ (.slice (some ⟨w.heap.size + 1, 0, none⟩) 1 1024)).alloc (.cells L.toArray 29)).drewN m1).drewN m
set_option maxRecDepth 100000 in
set_option maxHeartbeats 1000000 in
theorem new_full (w : World) (rb b n : Nat) (hrb : rb < w.heap.size) (A : Array Value) (hA : ∀ w, (Instr.makeSlice 23 (.int .i64 0) (.int .i64 1024)).run Yba.prog w = .ok (.slice (some ⟨w.heap.size, 0, none⟩) 0 1024) (w.alloc (.cells A 29))) (a0 : A[0]? = some (.string ⟨#[]⟩)) (a1 : A[1]? = some (.string ⟨#[]⟩)) (a2 : A[2]? = some (.int .i64 0)) (a3 : A[3]? = some (.int .i64 0)) (a4 : A[4]? = some (.int .i64 0)) (a5 : A[5]? = some (.pointer none))
   (cl nm : ByteArray) (cf rd : Int) (hr : w.cell? ⟨rb, 12, none⟩ = some (.slice (some ⟨b, 0, none⟩) n n)) (hrf : w.frozen? ⟨rb, 12, none⟩ = false) :
   Calls Yba.prog 5 #[.pointer (some ⟨rb, 0, none⟩), .agg #[.string cl, .string nm, .int .i64 cf, .int .i64 rd, .int .i64 0, .pointer none]] w (NF A w rb [.string cl, .string nm, .int .i64 cf, .int .i64 rd, .int .i64 0, .pointer none]) := by
  have hneq : ((n : Int) == (n : Int)) = true := by simp
  go_enter Yba.func5, Yba.ntmps5
  go_wp2_with fail
  go_quiet (fail)
  obtain ⟨nq0, hnq0⟩ : ∃ m, m = nq := ⟨_, rfl⟩
  rw [← hnq0]
  clear hnq0 nq
  go_wp2_with fail
  obtain ⟨W1, hW1⟩ : ∃ W1 : World, W1 = ((w.alloc (.cells #[.string cl, .string nm, .int .i64 cf, .int .i64 rd, .int .i64 0, .pointer none] 29)).drewN nq0) := ⟨_, rfl⟩
  have z1 : W1.heap.size = w.heap.size + 1 := by rw [hW1]; simp
  have d12 : W1.cell? ⟨rb, 12, none⟩ = some (.slice (some ⟨b, 0, none⟩) n n) := by rw [hW1]; exact (World.cell?_alloc_lt _ _ _ hrb).trans hr
  have dl : ∀ i v, #[.string cl, .string nm, .int .i64 cf, .int .i64 rd, .int .i64 0, .pointer none][i]? = some v → W1.cell? ⟨w.heap.size, i, none⟩ = some v := fun i v hv => by rw [hW1]; exact (World.cell?_alloc_new _ _ _ _).trans hv
  have df : W1.frozen? ⟨rb, 12, none⟩ = false := by rw [hW1]; exact (World.frozen?_alloc_old _ _ _ (Nat.ne_of_lt hrb)).trans hrf
  rw [← hW1]
  obtain ⟨W3, hW3⟩ : ∃ W3 : World, W3 = ((W1.setCell ⟨rb, 12, none⟩ (.slice (some ⟨w.heap.size + 1, 0, none⟩) 0 1024)).alloc (.cells A 29)) := ⟨_, rfl⟩
  have hz : (W1.setCell ⟨rb, 12, none⟩ (.slice (some ⟨w.heap.size + 1, 0, none⟩) 0 1024)).heap.size = w.heap.size + 1 := by rw [World.size_setCell, z1]
  have s3 : W3.heap.size = w.heap.size + 1 + 1 := by rw [hW3]; simp [hz]
  have r12 : W3.cell? ⟨rb, 12, none⟩ = some (.slice (some ⟨w.heap.size + 1, 0, none⟩) 0 1024) := by
    rw [hW3, World.cell?_alloc_lt _ _ _ (by rw [hz]; show rb < _; omega)]
    exact World.cell?_setCell_same _ _ _ d12
  have rf : W3.frozen? ⟨rb, 12, none⟩ = false := by
    rw [hW3, World.frozen?_alloc_old _ _ _ (by rw [hz]; show rb ≠ _; omega), World.frozen?_setCell]; exact df
  have nc : ∀ i v, A[i]? = some v → W3.cell? ⟨w.heap.size + 1, i, none⟩ = some v := fun i v hv => by
    rw [hW3]; exact at_new hz.symm hv
  have nf : ∀ i, W3.frozen? ⟨w.heap.size + 1, i, none⟩ = false := fun i => by rw [hW3]; exact fz_new hz.symm
  have lc : ∀ i v, #[.string cl, .string nm, .int .i64 cf, .int .i64 rd, .int .i64 0, .pointer none][i]? = some v → W3.cell? ⟨w.heap.size, i, none⟩ = some v := fun i v hv => by
    rw [hW3, World.cell?_alloc_lt _ _ _ (by rw [hz]; show w.heap.size < _; omega), World.cell?_setCell_other _ _ _ _ (fun e => by injection e with e1; omega)]
    exact dl i v hv
  have n0 := nc 0 _ a0
  have n1 := nc 1 _ a1
  have n2 := nc 2 _ a2
  have n3 := nc 3 _ a3
  have n4 := nc 4 _ a4
  have n5 := nc 5 _ a5
  have nf0 := nf 0
  have nf1 := nf 1
  have nf2 := nf 2
  have nf3 := nf 3
  have nf4 := nf 4
  have nf5 := nf 5
  have l0 := lc 0 _ rfl
  have l1 := lc 1 _ rfl
  have l2 := lc 2 _ rfl
  have l3 := lc 3 _ rfl
  have l4 := lc 4 _ rfl
  have l5 := lc 5 _ rfl
  rw [← hW3]
  have HW1 : Hid (W1 = ((w.alloc (.cells #[.string cl, .string nm, .int .i64 cf, .int .i64 rd, .int .i64 0, .pointer none] 29)).drewN nq0)) := hW1
  have HW3 : Hid (W3 = ((W1.setCell ⟨rb, 12, none⟩ (.slice (some ⟨w.heap.size + 1, 0, none⟩) 0 1024)).alloc (.cells A 29))) := hW3
  clear hW1 hW3 nc nf lc dl df d12 hz z1 hr hrf a0 a1 a2 a3 a4 a5
  have hrb3 : rb < W3.heap.size := by omega
  have hnb3 : w.heap.size + 1 < W3.heap.size := by omega
  have hlb3 : w.heap.size < W3.heap.size := by omega
  have hne3 : rb ≠ w.heap.size + 1 := by omega
  have hne4 : w.heap.size ≠ w.heap.size + 1 := by omega
  clear s3
  go_region
  go_wp2_with fail
  go_quiet (fail)
  go_wp2_with fail
  go_ret
  refine ⟨rfl, nq0, 1, nq, W3, ?_, rfl⟩
  rw [HW3.out, HW1.out]
end Go.Proofs.Ybulkfrvg
