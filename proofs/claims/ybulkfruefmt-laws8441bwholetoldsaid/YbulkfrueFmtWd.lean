import Derived.Test.YbulkfrueFmtWc
/-
  THE TREE: 'zzs8441bgen' makes one, in new blocks, of whatever bytes.
-/
namespace Go.Proofs.YbulkfrueFmt
open Go.RowKit
open Go.Deep (BT)

/-- a node's block -/
def NB (w : World) (b k st : Nat) (l r : Value) : Prop := w.heap[b]? = some (.cells #[.int .i64 (k : Int), .int .i64 ((st % 4 : Nat) : Int), .int .u8 (st : Int), l, r] 45)
section
variable {w : World} {b k st : Nat} {l r : Value}
theorem NB.lt (h : NB w b k st l r) : b < w.heap.size := by
  rcases Nat.lt_or_ge b w.heap.size with q | q
  · exact q
  · unfold NB at h; rw [Array.getElem?_eq_none q] at h; cases h
theorem NB.c0 (h : NB w b k st l r) : w.cell? ⟨b, 0, none⟩ = some (.int .i64 (k : Int)) := by unfold NB at h; simp [World.cell?, h]
theorem NB.c1 (h : NB w b k st l r) : w.cell? ⟨b, 1, none⟩ = some (.int .i64 ((st % 4 : Nat) : Int)) := by unfold NB at h; simp [World.cell?, h]
theorem NB.c2 (h : NB w b k st l r) : w.cell? ⟨b, 2, none⟩ = some (.int .u8 (st : Int)) := by unfold NB at h; simp [World.cell?, h]
theorem NB.c3 (h : NB w b k st l r) : w.cell? ⟨b, 3, none⟩ = some l := by unfold NB at h; simp [World.cell?, h]
theorem NB.c4 (h : NB w b k st l r) : w.cell? ⟨b, 4, none⟩ = some r := by unfold NB at h; simp [World.cell?, h]
theorem NB.fz (h : NB w b k st l r) (o : Nat) : w.frozen? ⟨b, o, none⟩ = false := by unfold NB at h; simp [World.frozen?, h]
theorem NB.set3 (h : NB w b k st l r) (x : Value) : NB (w.setCell ⟨b, 3, none⟩ x) b k st x r := by
  unfold NB at h ⊢; simp [World.setCell, Array.getElem?_modify, h]
theorem NB.set4 (h : NB w b k st l r) (x : Value) : NB (w.setCell ⟨b, 4, none⟩ x) b k st l x := by
  unfold NB at h ⊢; simp [World.setCell, Array.getElem?_modify, h]
theorem NB.same {w' : World} (h : NB w b k st l r) (e : w'.heap[b]? = w.heap[b]?) : NB w' b k st l r := by unfold NB; rw [e]; exact h
end

def TreeAt (lo : Nat) (w : World) : BT (Nat × Nat) → Prop
  | .nil => True
  | .node b o (k, st) l r => lo ≤ b ∧ o = 0 ∧ NB w b k st l.ptr r.ptr ∧ TreeAt lo w l ∧ TreeAt lo w r

theorem TreeAt.same {lo : Nat} {w w' : World} (t : BT (Nat × Nat)) (h : TreeAt lo w t) (e : ∀ k, lo ≤ k → k < w.heap.size → w'.heap[k]? = w.heap[k]?) : TreeAt lo w' t := by
  induction t with
  | nil => trivial
  | node b o a l r ihl ihr =>
    obtain ⟨k, st⟩ := a
    obtain ⟨h1, h2, h3, h4, h5⟩ := h
    exact ⟨h1, h2, h3.same (e b h1 h3.lt), ihl h4, ihr h5⟩
theorem TreeAt.mono {lo lo' : Nat} {w : World} (t : BT (Nat × Nat)) (h : TreeAt lo w t) (hl : lo' ≤ lo) : TreeAt lo' w t := by
  induction t with
  | nil => trivial
  | node b o a l r ihl ihr =>
    obtain ⟨k, st⟩ := a
    obtain ⟨h1, h2, h3, h4, h5⟩ := h
    exact ⟨by omega, h2, h3, ihl h4, ihr h5⟩

/-- the bytes of the code lie where its slice says -/
def CodeIn (w : World) (pb : Nat) (ao : Option Addr) (len : Nat) : Prop :=
  len = 0 ∨ ∃ cb off, ao = some ⟨cb, off, none⟩ ∧ cb ≠ pb ∧ cb < w.heap.size ∧ ∀ i, i < len → ∃ z : Nat, z < 256 ∧ w.cell? ⟨cb, off + i, none⟩ = some (.int .u8 (z : Int))
theorem CodeIn.keep {w w' : World} {pb : Nat} {ao : Option Addr} {len : Nat} (h : CodeIn w pb ao len) (k : Keep pb w w') : CodeIn w' pb ao len := by
  rcases h with h | ⟨cb, off, h1, h2, h3, h4⟩
  · exact Or.inl h
  · refine Or.inr ⟨cb, off, h1, h2, Nat.lt_of_lt_of_le h3 k.size, fun i hi => ?_⟩
    obtain ⟨z, hz, hc⟩ := h4 i hi
    exact ⟨z, hz, by rw [k.cell (p := ⟨cb, off + i, none⟩) h3 h2]; exact hc⟩

def POS (w : World) (pb p : Nat) : Prop := w.heap[pb]? = some (.cells #[.int .i64 (p : Int)] 3)
theorem POS.lt {w : World} {pb p : Nat} (h : POS w pb p) : pb < w.heap.size := by
  rcases Nat.lt_or_ge pb w.heap.size with q | q
  · exact q
  · unfold POS at h; rw [Array.getElem?_eq_none q] at h; cases h
theorem POS.c {w : World} {pb p : Nat} (h : POS w pb p) : w.cell? ⟨pb, 0, none⟩ = some (.int .i64 (p : Int)) := by unfold POS at h; simp [World.cell?, h]
theorem POS.fz {w : World} {pb p : Nat} (h : POS w pb p) : w.frozen? ⟨pb, 0, none⟩ = false := by unfold POS at h; simp [World.frozen?, h]
theorem POS.set {w : World} {pb p : Nat} (h : POS w pb p) (q : Nat) (x : Int) (hx : x = (q : Int)) : POS (w.setCell ⟨pb, 0, none⟩ (.int .i64 x)) pb q := by
  subst hx; unfold POS at h ⊢; simp [World.setCell, Array.getElem?_modify, h]
theorem POS.same {w w' : World} {pb p : Nat} (h : POS w pb p) (e : w'.heap[pb]? = w.heap[pb]?) : POS w' pb p := by unfold POS; rw [e]; exact h

def GenP (d pb len : Nat) (w : World) (e : Ending) (w' : World) : Prop :=
  ∃ t p', e = .returned (BT.ptr t) ∧ Pl.good d t ∧ TreeAt w.heap.size w' t ∧ Keep pb w w' ∧ POS w' pb p' ∧ p' ≤ len

def GenC (d : Nat) : Prop := ∀ (w : World) (pb p : Nat) (ao : Option Addr) (len cap : Nat), len ≤ 1048576 → p ≤ len → CodeIn w pb ao len → POS w pb p →
  Calls Ybaf.prog 4 #[.slice ao len cap, .pointer (some ⟨pb, 0, none⟩), .int .i64 (d : Int)] w (GenP d pb len w)

set_option maxRecDepth 100000 in
set_option maxHeartbeats 1000000 in
theorem gen_none (d : Nat) (_hd : d ≤ 5) (w : World) (pb p : Nat) (ao : Option Addr) (len cap : Nat) (_hl : len ≤ 1048576) (hp : p ≤ len) (hP : POS w pb p) (hge : ¬ p < len) :
    Calls Ybaf.prog 4 #[.slice ao len cap, .pointer (some ⟨pb, 0, none⟩), .int .i64 (d : Int)] w (GenP d pb len w) := by
  have c := hP.c
  have hlt := hP.lt
  have HP : Hid (POS w pb p) := hP
  clear hP
  have hz := alloc_at w (.cells #[.int .i64 0, .int .i64 0, .int .u8 0, .pointer none, .pointer none] 45) w.heap.size rfl
  have HZ : Hid (_ = _) := hz
  clear hz
  go_enter Ybaf.func4, Ybaf.ntmps4
  go_wp2_with fail
  all_goals
    go_ret
    refine ⟨.node w.heap.size 0 (0, 0) .nil .nil, p, rfl, ⟨by omega, Or.inl rfl⟩, ⟨Nat.le_refl _, rfl, ?_, trivial, trivial⟩, (Keep.refl _ _).alloc _, ?_, hp⟩
    · exact HZ.out
    · exact HP.out.same (Below.heap_alloc _ _ _ hlt)

theorem NB.same' {w w' : World} {b k st : Nat} {l r : Value} (h : NB w b k st l r) (e : w'.heap[b]? = w.heap[b]?) : NB w' b k st l r := h.same e

set_option maxRecDepth 100000 in
set_option maxHeartbeats 2000000 in
theorem gen_leaf (d : Nat) (_hd : d ≤ 5) (w : World) (pb p cb off : Nat) (len cap z : Nat) (_hl : len ≤ 1048576) (hlt : p < len) (hP : POS w pb p) (hz : z < 256) (hc : w.cell? ⟨cb, off + p, none⟩ = some (.int .u8 (z : Int))) (h : d = 0 ∨ z % 8 < 3) :
    Calls Ybaf.prog 4 #[.slice (some ⟨cb, off, none⟩) len cap, .pointer (some ⟨pb, 0, none⟩), .int .i64 (d : Int)] w (GenP d pb len w) := by
  have c := hP.c
  have f := hP.fz
  have hlt2 := hP.lt
  have HP : Hid (POS w pb p) := hP
  have HZ : Hid (∀ W : World, NB (W.alloc (.cells #[.int .i64 0, .int .i64 ((z : Int) / 8 % 4), .int .u8 ((z : Int) / 8), .pointer none, .pointer none] 45)) W.heap.size 0 (z / 8) (.pointer none) (.pointer none)) := by
    intro W
    unfold NB
    rw [alloc_at _ _ _ rfl]
    have e1 : ((z / 8 % 4 : Nat) : Int) = (z : Int) / 8 % 4 := by omega
    have e2 : ((z / 8 : Nat) : Int) = (z : Int) / 8 := by omega
    rw [e1, e2]; rfl
  clear hP
  have key : ∀ W, W = (w.setCell ⟨pb, 0, none⟩ (.int .i64 ((p : Int) + 1))).alloc (.cells #[.int .i64 0, .int .i64 ((z : Int) / 8 % 4), .int .u8 ((z : Int) / 8), .pointer none, .pointer none] 45) →
      GenP d pb len w (.returned (.pointer (some ⟨w.heap.size, 0, none⟩))) W := by
    rintro W rfl
    refine ⟨.node w.heap.size 0 (0, z / 8) .nil .nil, p + 1, rfl, ⟨by omega, Or.inl rfl⟩, ⟨Nat.le_refl _, rfl, ?_, trivial, trivial⟩, ((Keep.refl _ _).setCell _ _).alloc _, ?_, by omega⟩
    · have := HZ.out (w.setCell ⟨pb, 0, none⟩ (.int .i64 ((p : Int) + 1)))
      rw [World.size_setCell] at this
      exact this
    · exact (HP.out.set (p + 1) _ (by omega)).same (Below.heap_alloc _ _ _ (by simpa using hlt2))
  have KEY : Hid (∀ W, W = (w.setCell ⟨pb, 0, none⟩ (.int .i64 ((p : Int) + 1))).alloc (.cells #[.int .i64 0, .int .i64 ((z : Int) / 8 % 4), .int .u8 ((z : Int) / 8), .pointer none, .pointer none] 45) →
      GenP d pb len w (.returned (.pointer (some ⟨w.heap.size, 0, none⟩))) W) := key
  clear key
  by_cases hd0 : d = 0
  · subst hd0
    go_enter Ybaf.func4, Ybaf.ntmps4
    go_wp2_with fail
    go_ret
    exact KEY.out _ rfl
  · have h8 : z % 8 < 3 := by omega
    have e3 : (((z : Int) % 8) == 3) = false := beq_eq_false_iff_ne.2 (by omega)
    have e4 : (((z : Int) % 8) == 4) = false := beq_eq_false_iff_ne.2 (by omega)
    have e5 : (((z : Int) % 8) == 5) = false := beq_eq_false_iff_ne.2 (by omega)
    have e6 : (((z : Int) % 8) == 6) = false := beq_eq_false_iff_ne.2 (by omega)
    have e7 : (((z : Int) % 8) == 7) = false := beq_eq_false_iff_ne.2 (by omega)
    have hdd : (0 : Int) < (d : Int) := by omega
    clear h h8 hd0
    go_enter Ybaf.func4, Ybaf.ntmps4
    go_wp2_with fail
    go_ret
    exact KEY.out _ rfl
end Go.Proofs.YbulkfrueFmt
