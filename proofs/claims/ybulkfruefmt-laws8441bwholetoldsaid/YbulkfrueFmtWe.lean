import Derived.Test.YbulkfrueFmtWd
namespace Go.Proofs.YbulkfrueFmt
open Go.RowKit
open Go.Deep (BT)

theorem good_ptr {d : Nat} {t : BT (Nat × Nat)} (h : Pl.good d t) : ∃ b o, BT.ptr t = .pointer (some ⟨b, o, none⟩) := by
  cases t with
  | nil => exact h.elim
  | node b o a l r => exact ⟨b, o, rfl⟩
theorem CodeIn.set {w : World} {pb : Nat} {ao : Option Addr} {len nb o : Nat} {v : Value} (h : CodeIn w pb ao len) (hn : ∀ cb off, ao = some ⟨cb, off, none⟩ → cb ≠ nb) : CodeIn (w.setCell ⟨nb, o, none⟩ v) pb ao len := by
  rcases h with h | ⟨cb, off, h1, h2, h3, h4⟩
  · exact Or.inl h
  · refine Or.inr ⟨cb, off, h1, h2, by simpa using h3, fun i hi => ?_⟩
    obtain ⟨z, hz, hc⟩ := h4 i hi
    exact ⟨z, hz, by rw [World.cell?_setCell_other _ _ _ _ (by intro e; injection e with e1; exact hn cb off h1 e1.symm)]; exact hc⟩
theorem nb_new (W : World) (k z nb : Nat) (h : nb = W.heap.size) : NB (W.alloc (.cells #[.int .i64 (k : Int), .int .i64 ((z : Int) / 8 % 4), .int .u8 ((z : Int) / 8), .pointer none, .pointer none] 45)) nb k (z / 8) (.pointer none) (.pointer none) := by
  unfold NB
  rw [alloc_at _ _ _ h]
  have e1 : ((z / 8 % 4 : Nat) : Int) = (z : Int) / 8 % 4 := by omega
  have e2 : ((z / 8 : Nat) : Int) = (z : Int) / 8 := by omega
  rw [e1, e2]

/-- the world in which the node has just been made, and what is known of it -/
structure Made (w : World) (pb p len z k nb : Nat) (ao : Option Addr) (W : World) : Prop where
  nbw : nb = w.heap.size
  node : NB W nb k (z / 8) (.pointer none) (.pointer none)
  keep : Keep pb w W
  pos : POS W pb p
  code : CodeIn W pb ao len
  size : W.heap.size = w.heap.size + 1
  pbl : pb < w.heap.size
  cbl : ∀ cb off, ao = some ⟨cb, off, none⟩ → cb < w.heap.size

theorem made (w : World) (pb p len z k : Nat) (cb off : Nat) (hlt : p < len) (hP : POS w pb p) (hC : CodeIn w pb (some ⟨cb, off, none⟩) len) :
    Made w pb (p + 1) len z k w.heap.size (some ⟨cb, off, none⟩) ((w.setCell ⟨pb, 0, none⟩ (.int .i64 ((p : Int) + 1))).alloc (.cells #[.int .i64 (k : Int), .int .i64 ((z : Int) / 8 % 4), .int .u8 ((z : Int) / 8), .pointer none, .pointer none] 45)) := by
  have hpl := hP.lt
  have K : Keep pb w ((w.setCell ⟨pb, 0, none⟩ (.int .i64 ((p : Int) + 1))).alloc (.cells #[.int .i64 (k : Int), .int .i64 ((z : Int) / 8 % 4), .int .u8 ((z : Int) / 8), .pointer none, .pointer none] 45)) := ((Keep.refl _ _).setCell _ _).alloc _
  refine ⟨rfl, nb_new _ k z _ (by simp), K, ?_, hC.keep K, by simp, hpl, fun cb' off' e => ?_⟩
  · exact (hP.set (p + 1) _ (by omega)).same (Below.heap_alloc _ _ _ (by simpa using hpl))
  · rcases hC with h | ⟨cb2, off2, h1, h2, h3, h4⟩
    · omega
    · rw [h1] at e; injection e with e; injection e with e1 e2; omega

/-- behind the first subtree -/
structure One (w : World) (pb p len z k nb : Nat) (ao : Option Addr) (t1 : BT (Nat × Nat)) (W : World) : Prop where
  nbw : nb = w.heap.size
  node : NB W nb k (z / 8) (BT.ptr t1) (.pointer none)
  tree : TreeAt (w.heap.size + 1) W t1
  keep : Keep pb w W
  pos : POS W pb p
  code : CodeIn W pb ao len
  size : w.heap.size + 1 ≤ W.heap.size
  pbl : pb < w.heap.size
theorem Made.one {w : World} {pb p len z k nb : Nat} {ao : Option Addr} {W W1 : World} (h : Made w pb p len z k nb ao W) {d : Nat} {t1 : BT (Nat × Nat)} {p1 : Nat} (ht : TreeAt W.heap.size W1 t1) (hk : Keep pb W W1) (hp : POS W1 pb p1) (_hg : Pl.good d t1) :
    One w pb p1 len z k nb ao t1 (W1.setCell ⟨nb, 3, none⟩ (BT.ptr t1)) ∧ NB W1 nb k (z / 8) (.pointer none) (.pointer none) := by
  have h1 := h.nbw
  have h2 := h.size
  have h3 := h.pbl
  have h4 := hk.size
  have hN : NB W1 nb k (z / 8) (.pointer none) (.pointer none) := h.node.same (hk.block nb h.node.lt (by omega))
  refine ⟨⟨h1, hN.set3 _, ?_, (h.keep.trans hk).setNew (by show w.heap.size ≤ nb; omega) _, hp.same (Below.heap_setCell _ _ _ _ (by show pb ≠ nb; omega)), (h.code.keep hk).set (fun cb off e => ?_), by simp; omega, h3⟩, hN⟩
  · rw [h2] at ht
    exact TreeAt.same t1 ht (fun j hj _ => Below.heap_setCell _ _ _ _ (by show j ≠ nb; omega))
  · have := h.cbl cb off e; omega
theorem One.leaf {w : World} {pb p len z k nb : Nat} {ao : Option Addr} {t1 : BT (Nat × Nat)} {W : World} (h : One w pb p len z k nb ao t1 W) {d : Nat} (hz : z < 256) (hg : Pl.good d t1) (hk : k = 1) (hp : p ≤ len) :
    GenP (d + 1) pb len w (.returned (.pointer (some ⟨nb, 0, none⟩))) W := by
  have h1 := h.nbw
  exact ⟨.node nb 0 (k, z / 8) t1 .nil, p, rfl, ⟨by omega, Or.inr ⟨by omega, Or.inl ⟨hk, hg⟩⟩⟩, ⟨by omega, rfl, h.node, TreeAt.mono t1 h.tree (by omega), trivial⟩, h.keep, h.pos, hp⟩
theorem One.two {w : World} {pb p len z k nb : Nat} {ao : Option Addr} {t1 : BT (Nat × Nat)} {W W1 : World} (h : One w pb p len z k nb ao t1 W) {d : Nat} {t2 : BT (Nat × Nat)} {p2 : Nat} (hz : z < 256) (hg1 : Pl.good d t1) (ht : TreeAt W.heap.size W1 t2) (hk : Keep pb W W1) (hp : POS W1 pb p2) (hg : Pl.good d t2) (hk2 : k = 2 ∨ k = 3) (hp2 : p2 ≤ len) :
    GenP (d + 1) pb len w (.returned (.pointer (some ⟨nb, 0, none⟩))) (W1.setCell ⟨nb, 4, none⟩ (BT.ptr t2)) ∧ NB W1 nb k (z / 8) (BT.ptr t1) (.pointer none) := by
  have h1 := h.nbw
  have h2 := h.size
  have h3 := h.pbl
  have h4 := hk.size
  have hN : NB W1 nb k (z / 8) (BT.ptr t1) (.pointer none) := h.node.same (hk.block nb h.node.lt (by omega))
  refine ⟨⟨.node nb 0 (k, z / 8) t1 t2, p2, rfl, ⟨by omega, Or.inr ⟨by omega, Or.inr ⟨hk2, hg1, hg⟩⟩⟩, ⟨by omega, rfl, hN.set4 _, ?_, ?_⟩, (h.keep.trans hk).setNew (by show w.heap.size ≤ nb; omega) _, hp.same (Below.heap_setCell _ _ _ _ (by show pb ≠ nb; omega)), hp2⟩, hN⟩
  · refine TreeAt.mono t1 (TreeAt.same t1 h.tree (fun j hj hj2 => ?_)) (by omega)
    rw [Below.heap_setCell _ _ _ _ (by show j ≠ nb; omega)]
    exact hk.block j hj2 (by omega)
  · refine TreeAt.mono t2 (TreeAt.same t2 ht (fun j hj _ => ?_)) (by omega)
    exact Below.heap_setCell _ _ _ _ (by show j ≠ nb; omega)

set_option maxRecDepth 100000 in
set_option maxHeartbeats 2000000 in
theorem gen_1 (d : Nat) (_hd : d + 1 ≤ 5) (ih : GenC d) (w : World) (pb p cb off : Nat) (len cap z : Nat) (hl : len ≤ 1048576) (hlt : p < len) (hC : CodeIn w pb (some ⟨cb, off, none⟩) len) (hP : POS w pb p) (hz : z < 256) (hc : w.cell? ⟨cb, off + p, none⟩ = some (.int .u8 (z : Int))) (h3 : z % 8 = 3) :
    Calls Ybaf.prog 4 #[.slice (some ⟨cb, off, none⟩) len cap, .pointer (some ⟨pb, 0, none⟩), .int .i64 ((d + 1 : Nat) : Int)] w (GenP (d + 1) pb len w) := by
  have c := hP.c
  have f := hP.fz
  have hpl := hP.lt
  have IH : Hid (GenC d) := ih
  have e3 : (((z : Int) % 8) == 3) = true := beq_iff_eq.2 (by omega)
  have M : Hid (Made w pb (p + 1) len z 1 w.heap.size (some ⟨cb, off, none⟩) ((w.setCell ⟨pb, 0, none⟩ (.int .i64 ((p : Int) + 1))).alloc (.cells #[.int .i64 1, .int .i64 ((z : Int) / 8 % 4), .int .u8 ((z : Int) / 8), .pointer none, .pointer none] 45))) := made w pb p len z 1 cb off hlt hP hC
  clear ih hC hP h3
  go_enter Ybaf.func4, Ybaf.ntmps4
  go_wp2_with fail
  refine (IH.out _ pb (p + 1) _ len cap hl (by omega) M.out.code M.out.pos).mono ?_
  rintro e w1 ⟨t1, p1, rfl, hg1, ht1, hk1, hp1, hp1'⟩
  obtain ⟨o1, n1⟩ := M.out.one ht1 hk1 hp1 hg1
  have fin : GenP (d + 1) pb len w (.returned (.pointer (some ⟨w.heap.size, 0, none⟩))) (w1.setCell ⟨w.heap.size, 3, none⟩ (BT.ptr t1)) := o1.leaf hz hg1 rfl hp1'
  obtain ⟨b1, o1', hptr⟩ := good_ptr hg1
  rw [hptr] at fin ⊢
  have FIN : Hid (GenP _ _ _ _ _ _) := fin
  have fz3 := n1.fz 3
  have cc3 := n1.c3
  clear hptr fin hg1 ht1 hk1 hp1 o1 n1
  go_wp2_with fail
  go_ret
  exact FIN.out

set_option maxRecDepth 100000 in
set_option maxHeartbeats 2000000 in
theorem gen_4 (d : Nat) (_hd : d + 1 ≤ 5) (ih : GenC d) (w : World) (pb p cb off : Nat) (len cap z : Nat) (hl : len ≤ 1048576) (hlt : p < len) (hC : CodeIn w pb (some ⟨cb, off, none⟩) len) (hP : POS w pb p) (hz : z < 256) (hc : w.cell? ⟨cb, off + p, none⟩ = some (.int .u8 (z : Int))) (h3 : z % 8 = 4) :
    Calls Ybaf.prog 4 #[.slice (some ⟨cb, off, none⟩) len cap, .pointer (some ⟨pb, 0, none⟩), .int .i64 ((d + 1 : Nat) : Int)] w (GenP (d + 1) pb len w) := by
  have c := hP.c
  have f := hP.fz
  have hpl := hP.lt
  have IH : Hid (GenC d) := ih
  have e3 : (((z : Int) % 8) == 3) = false := beq_eq_false_iff_ne.2 (by omega)
  have e4 : (((z : Int) % 8) == 4) = true := beq_iff_eq.2 (by omega)
  have M : Hid (Made w pb (p + 1) len z 2 w.heap.size (some ⟨cb, off, none⟩) ((w.setCell ⟨pb, 0, none⟩ (.int .i64 ((p : Int) + 1))).alloc (.cells #[.int .i64 2, .int .i64 ((z : Int) / 8 % 4), .int .u8 ((z : Int) / 8), .pointer none, .pointer none] 45))) := made w pb p len z 2 cb off hlt hP hC
  clear ih hC hP h3
  go_enter Ybaf.func4, Ybaf.ntmps4
  go_wp2_with fail
  refine (IH.out _ pb (p + 1) _ len cap hl (by omega) M.out.code M.out.pos).mono ?_
  rintro e w1 ⟨t1, p1, rfl, hg1, ht1, hk1, hp1, hp1'⟩
  obtain ⟨o1, n1⟩ := M.out.one ht1 hk1 hp1 hg1
  obtain ⟨b1, o1', hptr⟩ := good_ptr hg1
  have O1 : Hid (One w pb p1 len z 2 w.heap.size (some ⟨cb, off, none⟩) t1 (w1.setCell ⟨w.heap.size, 3, none⟩ (BT.ptr t1))) := o1
  have HPT : Hid (BT.ptr t1 = .pointer (some ⟨b1, o1', none⟩)) := hptr
  have G1 : Hid (Pl.good d t1) := hg1
  rw [hptr] at O1 ⊢
  have fz3 := n1.fz 3
  have cc3 := n1.c3
  clear hptr hg1 ht1 hk1 hp1 o1 n1
  go_wp2_with fail
  clear fz3 cc3
  refine (IH.out _ pb p1 _ len cap hl hp1' O1.out.code O1.out.pos).mono ?_
  rintro e w2 ⟨t2, p2, rfl, hg2, ht2, hk2, hp2, hp2'⟩
  obtain ⟨fin, n2⟩ := O1.out.two hz G1.out ht2 hk2 hp2 hg2 (by decide) hp2'
  obtain ⟨b2, o2', hptr2⟩ := good_ptr hg2
  rw [hptr2] at fin ⊢
  have FIN : Hid (GenP _ _ _ _ _ _) := fin
  have fz4 := n2.fz 4
  have cc4 := n2.c4
  clear hptr2 hg2 ht2 hk2 hp2 fin n2
  go_wp2_with fail
  go_ret
  exact FIN.out

set_option maxRecDepth 100000 in
set_option maxHeartbeats 2000000 in
theorem gen_5 (d : Nat) (_hd : d + 1 ≤ 5) (ih : GenC d) (w : World) (pb p cb off : Nat) (len cap z : Nat) (hl : len ≤ 1048576) (hlt : p < len) (hC : CodeIn w pb (some ⟨cb, off, none⟩) len) (hP : POS w pb p) (hz : z < 256) (hc : w.cell? ⟨cb, off + p, none⟩ = some (.int .u8 (z : Int))) (h3 : z % 8 = 5) :
    Calls Ybaf.prog 4 #[.slice (some ⟨cb, off, none⟩) len cap, .pointer (some ⟨pb, 0, none⟩), .int .i64 ((d + 1 : Nat) : Int)] w (GenP (d + 1) pb len w) := by
  have c := hP.c
  have f := hP.fz
  have hpl := hP.lt
  have IH : Hid (GenC d) := ih
  have e3 : (((z : Int) % 8) == 3) = false := beq_eq_false_iff_ne.2 (by omega)
  have e4 : (((z : Int) % 8) == 4) = false := beq_eq_false_iff_ne.2 (by omega)
  have e5 : (((z : Int) % 8) == 5) = true := beq_iff_eq.2 (by omega)
  have M : Hid (Made w pb (p + 1) len z 2 w.heap.size (some ⟨cb, off, none⟩) ((w.setCell ⟨pb, 0, none⟩ (.int .i64 ((p : Int) + 1))).alloc (.cells #[.int .i64 2, .int .i64 ((z : Int) / 8 % 4), .int .u8 ((z : Int) / 8), .pointer none, .pointer none] 45))) := made w pb p len z 2 cb off hlt hP hC
  clear ih hC hP h3
  go_enter Ybaf.func4, Ybaf.ntmps4
  go_wp2_with fail
  refine (IH.out _ pb (p + 1) _ len cap hl (by omega) M.out.code M.out.pos).mono ?_
  rintro e w1 ⟨t1, p1, rfl, hg1, ht1, hk1, hp1, hp1'⟩
  obtain ⟨o1, n1⟩ := M.out.one ht1 hk1 hp1 hg1
  obtain ⟨b1, o1', hptr⟩ := good_ptr hg1
  have O1 : Hid (One w pb p1 len z 2 w.heap.size (some ⟨cb, off, none⟩) t1 (w1.setCell ⟨w.heap.size, 3, none⟩ (BT.ptr t1))) := o1
  have HPT : Hid (BT.ptr t1 = .pointer (some ⟨b1, o1', none⟩)) := hptr
  have G1 : Hid (Pl.good d t1) := hg1
  rw [hptr] at O1 ⊢
  have fz3 := n1.fz 3
  have cc3 := n1.c3
  clear hptr hg1 ht1 hk1 hp1 o1 n1
  go_wp2_with fail
  clear fz3 cc3
  refine (IH.out _ pb p1 _ len cap hl hp1' O1.out.code O1.out.pos).mono ?_
  rintro e w2 ⟨t2, p2, rfl, hg2, ht2, hk2, hp2, hp2'⟩
  obtain ⟨fin, n2⟩ := O1.out.two hz G1.out ht2 hk2 hp2 hg2 (by decide) hp2'
  obtain ⟨b2, o2', hptr2⟩ := good_ptr hg2
  rw [hptr2] at fin ⊢
  have FIN : Hid (GenP _ _ _ _ _ _) := fin
  have fz4 := n2.fz 4
  have cc4 := n2.c4
  clear hptr2 hg2 ht2 hk2 hp2 fin n2
  go_wp2_with fail
  go_ret
  exact FIN.out

set_option maxRecDepth 100000 in
set_option maxHeartbeats 2000000 in
theorem gen_6 (d : Nat) (_hd : d + 1 ≤ 5) (ih : GenC d) (w : World) (pb p cb off : Nat) (len cap z : Nat) (hl : len ≤ 1048576) (hlt : p < len) (hC : CodeIn w pb (some ⟨cb, off, none⟩) len) (hP : POS w pb p) (hz : z < 256) (hc : w.cell? ⟨cb, off + p, none⟩ = some (.int .u8 (z : Int))) (h3 : z % 8 = 6) :
    Calls Ybaf.prog 4 #[.slice (some ⟨cb, off, none⟩) len cap, .pointer (some ⟨pb, 0, none⟩), .int .i64 ((d + 1 : Nat) : Int)] w (GenP (d + 1) pb len w) := by
  have c := hP.c
  have f := hP.fz
  have hpl := hP.lt
  have IH : Hid (GenC d) := ih
  have e3 : (((z : Int) % 8) == 3) = false := beq_eq_false_iff_ne.2 (by omega)
  have e4 : (((z : Int) % 8) == 4) = false := beq_eq_false_iff_ne.2 (by omega)
  have e5 : (((z : Int) % 8) == 5) = false := beq_eq_false_iff_ne.2 (by omega)
  have e6 : (((z : Int) % 8) == 6) = true := beq_iff_eq.2 (by omega)
  have M : Hid (Made w pb (p + 1) len z 3 w.heap.size (some ⟨cb, off, none⟩) ((w.setCell ⟨pb, 0, none⟩ (.int .i64 ((p : Int) + 1))).alloc (.cells #[.int .i64 3, .int .i64 ((z : Int) / 8 % 4), .int .u8 ((z : Int) / 8), .pointer none, .pointer none] 45))) := made w pb p len z 3 cb off hlt hP hC
  clear ih hC hP h3
  go_enter Ybaf.func4, Ybaf.ntmps4
  go_wp2_with fail
  refine (IH.out _ pb (p + 1) _ len cap hl (by omega) M.out.code M.out.pos).mono ?_
  rintro e w1 ⟨t1, p1, rfl, hg1, ht1, hk1, hp1, hp1'⟩
  obtain ⟨o1, n1⟩ := M.out.one ht1 hk1 hp1 hg1
  obtain ⟨b1, o1', hptr⟩ := good_ptr hg1
  have O1 : Hid (One w pb p1 len z 3 w.heap.size (some ⟨cb, off, none⟩) t1 (w1.setCell ⟨w.heap.size, 3, none⟩ (BT.ptr t1))) := o1
  have HPT : Hid (BT.ptr t1 = .pointer (some ⟨b1, o1', none⟩)) := hptr
  have G1 : Hid (Pl.good d t1) := hg1
  rw [hptr] at O1 ⊢
  have fz3 := n1.fz 3
  have cc3 := n1.c3
  clear hptr hg1 ht1 hk1 hp1 o1 n1
  go_wp2_with fail
  clear fz3 cc3
  refine (IH.out _ pb p1 _ len cap hl hp1' O1.out.code O1.out.pos).mono ?_
  rintro e w2 ⟨t2, p2, rfl, hg2, ht2, hk2, hp2, hp2'⟩
  obtain ⟨fin, n2⟩ := O1.out.two hz G1.out ht2 hk2 hp2 hg2 (by decide) hp2'
  obtain ⟨b2, o2', hptr2⟩ := good_ptr hg2
  rw [hptr2] at fin ⊢
  have FIN : Hid (GenP _ _ _ _ _ _) := fin
  have fz4 := n2.fz 4
  have cc4 := n2.c4
  clear hptr2 hg2 ht2 hk2 hp2 fin n2
  go_wp2_with fail
  go_ret
  exact FIN.out

set_option maxRecDepth 100000 in
set_option maxHeartbeats 2000000 in
theorem gen_7 (d : Nat) (_hd : d + 1 ≤ 5) (ih : GenC d) (w : World) (pb p cb off : Nat) (len cap z : Nat) (hl : len ≤ 1048576) (hlt : p < len) (hC : CodeIn w pb (some ⟨cb, off, none⟩) len) (hP : POS w pb p) (hz : z < 256) (hc : w.cell? ⟨cb, off + p, none⟩ = some (.int .u8 (z : Int))) (h3 : z % 8 = 7) :
    Calls Ybaf.prog 4 #[.slice (some ⟨cb, off, none⟩) len cap, .pointer (some ⟨pb, 0, none⟩), .int .i64 ((d + 1 : Nat) : Int)] w (GenP (d + 1) pb len w) := by
  have c := hP.c
  have f := hP.fz
  have hpl := hP.lt
  have IH : Hid (GenC d) := ih
  have e3 : (((z : Int) % 8) == 3) = false := beq_eq_false_iff_ne.2 (by omega)
  have e4 : (((z : Int) % 8) == 4) = false := beq_eq_false_iff_ne.2 (by omega)
  have e5 : (((z : Int) % 8) == 5) = false := beq_eq_false_iff_ne.2 (by omega)
  have e6 : (((z : Int) % 8) == 6) = false := beq_eq_false_iff_ne.2 (by omega)
  have e7 : (((z : Int) % 8) == 7) = true := beq_iff_eq.2 (by omega)
  have M : Hid (Made w pb (p + 1) len z 3 w.heap.size (some ⟨cb, off, none⟩) ((w.setCell ⟨pb, 0, none⟩ (.int .i64 ((p : Int) + 1))).alloc (.cells #[.int .i64 3, .int .i64 ((z : Int) / 8 % 4), .int .u8 ((z : Int) / 8), .pointer none, .pointer none] 45))) := made w pb p len z 3 cb off hlt hP hC
  clear ih hC hP h3
  go_enter Ybaf.func4, Ybaf.ntmps4
  go_wp2_with fail
  refine (IH.out _ pb (p + 1) _ len cap hl (by omega) M.out.code M.out.pos).mono ?_
  rintro e w1 ⟨t1, p1, rfl, hg1, ht1, hk1, hp1, hp1'⟩
  obtain ⟨o1, n1⟩ := M.out.one ht1 hk1 hp1 hg1
  obtain ⟨b1, o1', hptr⟩ := good_ptr hg1
  have O1 : Hid (One w pb p1 len z 3 w.heap.size (some ⟨cb, off, none⟩) t1 (w1.setCell ⟨w.heap.size, 3, none⟩ (BT.ptr t1))) := o1
  have HPT : Hid (BT.ptr t1 = .pointer (some ⟨b1, o1', none⟩)) := hptr
  have G1 : Hid (Pl.good d t1) := hg1
  rw [hptr] at O1 ⊢
  have fz3 := n1.fz 3
  have cc3 := n1.c3
  clear hptr hg1 ht1 hk1 hp1 o1 n1
  go_wp2_with fail
  clear fz3 cc3
  refine (IH.out _ pb p1 _ len cap hl hp1' O1.out.code O1.out.pos).mono ?_
  rintro e w2 ⟨t2, p2, rfl, hg2, ht2, hk2, hp2, hp2'⟩
  obtain ⟨fin, n2⟩ := O1.out.two hz G1.out ht2 hk2 hp2 hg2 (by decide) hp2'
  obtain ⟨b2, o2', hptr2⟩ := good_ptr hg2
  rw [hptr2] at fin ⊢
  have FIN : Hid (GenP _ _ _ _ _ _) := fin
  have fz4 := n2.fz 4
  have cc4 := n2.c4
  clear hptr2 hg2 ht2 hk2 hp2 fin n2
  go_wp2_with fail
  go_ret
  exact FIN.out

theorem gen_any (d : Nat) (hd : d ≤ 5) : GenC d := by
  induction d with
  | zero =>
    intro w pb p ao len cap hl hp hC hP
    by_cases hlt : p < len
    · rcases hC with h | ⟨cb, off, rfl, h2, h3, h4⟩
      · omega
      · obtain ⟨z, hz, hc⟩ := h4 p hlt
        exact gen_leaf 0 hd w pb p cb off len cap z hl hlt hP hz hc (Or.inl rfl)
    · exact gen_none 0 hd w pb p ao len cap hl hp hP hlt
  | succ d ih =>
    have ih' := ih (by omega)
    intro w pb p ao len cap hl hp hC hP
    by_cases hlt : p < len
    · have hC' := hC
      rcases hC with h | ⟨cb, off, rfl, h2, h3, h4⟩
      · omega
      · obtain ⟨z, hz, hc⟩ := h4 p hlt
        rcases (show z % 8 < 3 ∨ z % 8 = 3 ∨ z % 8 = 4 ∨ z % 8 = 5 ∨ z % 8 = 6 ∨ z % 8 = 7 by omega) with q | q | q | q | q | q
        · exact gen_leaf (d + 1) hd w pb p cb off len cap z hl hlt hP hz hc (Or.inr q)
        · exact gen_1 d hd ih' w pb p cb off len cap z hl hlt hC' hP hz hc q
        · exact gen_4 d hd ih' w pb p cb off len cap z hl hlt hC' hP hz hc q
        · exact gen_5 d hd ih' w pb p cb off len cap z hl hlt hC' hP hz hc q
        · exact gen_6 d hd ih' w pb p cb off len cap z hl hlt hC' hP hz hc q
        · exact gen_7 d hd ih' w pb p cb off len cap z hl hlt hC' hP hz hc q
    · exact gen_none (d + 1) hd w pb p ao len cap hl hp hP hlt
end Go.Proofs.YbulkfrueFmt
