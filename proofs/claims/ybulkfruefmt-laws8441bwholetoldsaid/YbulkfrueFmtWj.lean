import Derived.Test.YbulkfrueFmtWi
namespace Go.Proofs.YbulkfrueFmt
open Go.RowKit Go.Extern.Stop Go.Stop Go.Extern
open Go.Deep (BT)

theorem rend_any (lo : Nat) (t : BT (Nat × Nat)) : ∀ (d ctx : Nat) (w : World), d ≤ 5 → Pl.good d t → TreeAt lo w t → Calls Ybaf.prog 5 #[BT.ptr t, .int .i64 (ctx : Int)] w (RP (Pl.rend t ctx) w) := by
  induction t with
  | nil => intro d ctx w _ h; exact h.elim
  | node b o a l r ihl ihr =>
    obtain ⟨k, st⟩ := a
    rintro d ctx w hd5 ⟨hst, hk⟩ ⟨h1, rfl, hN, hl, hr⟩
    have bnd : ∀ (x : BT (Nat × Nat)) (c : Nat), Pl.good (d - 1) x → (Pl.rend x c).length ≤ 100000 := fun x c hx => by
      have q := Pl.len_rend x (d - 1) c hx
      have : 2 ^ (d - 1) ≤ 2 ^ 4 := Nat.pow_le_pow_right (by decide) (by omega)
      omega
    rcases hk with rfl | ⟨hd, ⟨rfl, gl⟩ | ⟨rfl | rfl, gl, gr⟩⟩
    · exact rend_k0 w b st ctx hst l r hN
    · obtain ⟨b1, o1, hptr⟩ := good_ptr gl
      refine rend_k1 w b st ctx lo hst l r b1 o1 hptr (bnd l 2 gl) hl hN (fun W hW => ?_)
      have := ihl (d - 1) 2 W (by omega) gl hW
      rw [hptr] at this
      exact this
    · obtain ⟨b1, o1, hptr⟩ := good_ptr gl
      obtain ⟨b2, o2, hptr2⟩ := good_ptr gr
      refine rend_k2 w b st ctx lo hst l r b1 o1 b2 o2 hptr hptr2 (bnd l 1 gl) (bnd r 1 gr) hl hr hN (fun W hW => ?_) (fun W hW => ?_)
      · have := ihl (d - 1) 1 W (by omega) gl hW
        rw [hptr] at this
        exact this
      · have := ihr (d - 1) 1 W (by omega) gr hW
        rw [hptr2] at this
        exact this
    · obtain ⟨b1, o1, hptr⟩ := good_ptr gl
      obtain ⟨b2, o2, hptr2⟩ := good_ptr gr
      refine rend_k3 w b st ctx lo hst l r b1 o1 b2 o2 hptr hptr2 (bnd l 0 gl) (bnd r 0 gr) hl hr hN (fun W hW => ?_) (fun W hW => ?_)
      · have := ihl (d - 1) 0 W (by omega) gl hW
        rw [hptr] at this
        exact this
      · have := ihr (d - 1) 0 W (by omega) gr hW
        rw [hptr2] at this
        exact this

/-- what the law leaves: true; of what was there nothing has turned -/
def LP (w : World) (e : Ending) (w' : World) : Prop := e = .returned (.bool true) ∧ Below w.heap.size w w'

set_option maxRecDepth 100000 in
set_option maxHeartbeats 1000000 in
theorem law_big (w : World) (ao : Option Addr) (len cap dv tl : Nat) (hl : ¬ len ≤ 1048576) :
    Calls Ybaf.prog 3 #[.slice ao len cap, .int .u8 (dv : Int), .int .u8 (tl : Int)] w (LP w) := by
  have h1 : decide ((1048576 : Int) < (len : Int)) = true := by simp; omega
  go_enter Ybaf.func3, Ybaf.ntmps3
  go_wp2_with fail
  go_ret
  exact ⟨rfl, (Below.refl _ _).alloc (Nat.le_refl _) _⟩

/-- what is known behind the making of the tree -/
structure Start (w : World) (dv : Nat) (t : BT (Nat × Nat)) (w1 : World) : Prop where
  good : Pl.good 5 t
  tree : TreeAt (w.heap.size + 2) w1 t
  below : Below w.heap.size w w1
  defd : w1.cell? ⟨w.heap.size, 0, none⟩ = some (.int .u8 (dv : Int))
  size : w.heap.size + 2 ≤ w1.heap.size

theorem start (w : World) (ao : Option Addr) (len cap dv : Nat) (hl : len ≤ 1048576) (hC : CodeIn w (w.heap.size + 1) ao len) :
    Calls Ybaf.prog 4 #[.slice ao len cap, .pointer (some ⟨w.heap.size + 1, 0, none⟩), .int .i64 5] ((w.alloc (.cells #[.int .u8 (dv : Int)] 5)).alloc (.cells #[.int .i64 0] 3)) fun e w' => ∃ t, e = .returned (BT.ptr t) ∧ Start w dv t w' := by
  have K0 : Keep (w.heap.size + 1) w ((w.alloc (.cells #[.int .u8 (dv : Int)] 5)).alloc (.cells #[.int .i64 0] 3)) := ((Keep.refl _ _).alloc _).alloc _
  have hP : POS ((w.alloc (.cells #[.int .u8 (dv : Int)] 5)).alloc (.cells #[.int .i64 0] 3)) (w.heap.size + 1) 0 := alloc_at _ _ _ (by simp)
  refine (gen_any 5 (Nat.le_refl _) _ (w.heap.size + 1) 0 ao len cap hl (Nat.zero_le _) (hC.keep K0) hP).mono ?_
  rintro e w1 ⟨t, p', rfl, hg, ht, hk, _, _⟩
  have hs := hk.size
  simp only [World.size_alloc] at hs ht
  refine ⟨t, rfl, hg, ht, ?_, ?_, by omega⟩
  · exact (((Below.refl _ _).alloc (Nat.le_refl _) _).alloc (by simp) _).trans (hk.toBelow (by omega) (by simp; omega))
  · rw [hk.cell (p := ⟨w.heap.size, 0, none⟩) (by simp; omega) (by show w.heap.size ≠ w.heap.size + 1; omega), World.cell?_alloc_lt _ _ _ (by simp)]
    simp

theorem tassert (a : Addr) (w : World) : (Instr.typeAssert (.iface 35 (.pointer (some a))) 32 35 true).run Ybaf.prog w = .ok (.tuple #[.pointer (some a), .bool true]) w := by kernel_rfl
set_option maxRecDepth 100000 in
set_option maxHeartbeats 1000000 in
theorem law_1 (F : Interp) (w : World) (hF : F.answers w.tape) (ao : Option Addr) (len cap dv tl : Nat) (hl : len ≤ 1048576) (hdv : dv < 256) (htl : tl < 256) (hC : CodeIn w (w.heap.size + 1) ao len) (h3 : tl % 3 = 1) :
    Calls Ybaf.prog 3 #[.slice ao len cap, .int .u8 (dv : Int), .int .u8 (tl : Int)] w (LP w) := by
  have e1 : (((tl : Int) % 3) == 1) = true := beq_iff_eq.2 (by omega)
  have HFF : Hid (F.answers w.tape) := hF
  have GC : Hid (Calls Ybaf.prog 4 #[.slice ao len cap, .pointer (some ⟨w.heap.size + 1, 0, none⟩), .int .i64 5] ((w.alloc (.cells #[.int .u8 (dv : Int)] 5)).alloc (.cells #[.int .i64 0] 3)) fun e w' => ∃ t, e = .returned (BT.ptr t) ∧ Start w dv t w') := start w ao len cap dv hl hC
  clear hF hC
  go_enter Ybaf.func3, Ybaf.ntmps3
  go_wp2_with fail
  refine GC.out.mono ?_
  rintro e w1 ⟨t, rfl, hS⟩
  have HS : Hid (Start w dv t w1) := hS
  have RC : Hid (Calls Ybaf.prog 5 #[BT.ptr t, .int .i64 0] w1 (RP (Pl.rend t 0) w1)) := rend_any _ t 5 0 w1 (Nat.le_refl _) hS.good hS.tree
  obtain ⟨b1, o1, hptr⟩ := good_ptr hS.good
  rw [hptr] at RC ⊢
  have HPT : Hid (BT.ptr t = .pointer (some ⟨b1, o1, none⟩)) := hptr
  have sr : (mk (Pl.rend t 0)).size ≤ 100000 := by have q := Pl.len_rend t 5 0 hS.good; show (Pl.rend t 0).length ≤ 100000; omega
  clear hS hptr
  go_wp2_with fail
  refine RC.out.mono ?_
  rintro e w2 ⟨rfl, n2, rfl⟩
  have sa := ws_sz (((tl : Int) / 4)).toNat
  have sb := ws_sz (((tl : Int) / 16)).toNat
  have sa' := ws_sz (tl / 4)
  have sb' := ws_sz (tl / 16)
  go_wp2_with fail
  refine (ws_int _ (by omega) (by omega) _).mono ?_
  rintro e w3 ⟨rfl, rfl⟩
  go_wp2_with fail
  refine (ws_int _ (by omega) (by omega) _).mono ?_
  rintro e w3 ⟨rfl, rfl⟩
  rw [show ((tl : Int) / 4).toNat = tl / 4 by omega, show ((tl : Int) / 16).toNat = tl / 16 by omega]
  go_wp2_with fail
  generalize hs : mk (Pl.wsL (tl / 4)) ++ mk (Pl.rend t 0) ++ mk (Pl.wsL (tl / 16)) ++ ⟨#[41]⟩ = s
  have hss : s = mk (Pl.wsL (tl / 4) ++ Pl.rend t 0 ++ Pl.wsL (tl / 16) ++ [41]) := by
    rw [← hs, show (⟨#[41]⟩ : ByteArray) = mk [41] from rfl]; simp only [mk_app]
  have hsz : s.size ≤ 1073741824 ∧ 1 ≤ s.size := by
    rw [hss, mk_size]
    have h1 : (Pl.rend t 0).length ≤ 100000 := sr
    have h2 : (Pl.wsL (tl / 4)).length ≤ 2 := sa'
    have h3 : (Pl.wsL (tl / 16)).length ≤ 2 := sb'
    simp only [List.length_append, List.length_cons, List.length_nil]
    omega
  obtain ⟨hsz, hsz1⟩ := hsz
  have PF : Hid (Calls Ybaf.prog 7 #[.string s] (w1.drewN n2) (Fault (s.size - (([] : List UInt8).length + 1)) (w1.drewN n2))) := by
    refine Parse_fault s _ _ (parse_tail dv 64 20 hdv (by decide) F s hsz (Pl.ev (dfB dv) t) [] ?_ (w1.drewN n2) ?_)
    · have := Pl.whole (dfB dv) 64 t 5 20 HS.out.good (by decide) (by decide) (Pl.wsL (tl / 4)) (Pl.wsL (tl / 16) ++ [41]) (Pl.ws_wsL _) [41] (by rw [Pl.skip_ws (Pl.ws_wsL _)]; rfl) (Pl.stop_ws _ rfl) (Or.inr ⟨[], rfl⟩)
      rw [← this]
      congr 1
      rw [hss]; simp [rst, mk]
    · show F.answers w1.tape
      rw [HS.out.below.tape]; exact HFF.out
  clear hs hss sr sa sb sa' sb'
  refine PF.out.mono ?_
  rintro e w4 ⟨eb, m, rfl, hb4, hc4⟩
  have B4 : Hid (Below w.heap.size w w4) := (below_drewN HS.out.below _).trans (hb4.mono (by show w.heap.size ≤ w1.heap.size; have := HS.out.size; omega))
  have cc : w4.cell? ⟨eb, 0, none⟩ = some (.int .i64 ((s.size : Int) - 1)) := by
    simp only [World.cell?, hc4]
    simp
    omega
  clear hb4 hc4
  have hta := tassert
  go_wp2_with fail
  go_ret
  exact ⟨rfl, B4.out⟩

set_option maxRecDepth 100000 in
set_option maxHeartbeats 1000000 in
theorem law_2 (F : Interp) (w : World) (hF : F.answers w.tape) (ao : Option Addr) (len cap dv tl : Nat) (hl : len ≤ 1048576) (hdv : dv < 256) (htl : tl < 256) (hC : CodeIn w (w.heap.size + 1) ao len) (h3 : tl % 3 = 2) :
    Calls Ybaf.prog 3 #[.slice ao len cap, .int .u8 (dv : Int), .int .u8 (tl : Int)] w (LP w) := by
  have e1 : (((tl : Int) % 3) == 1) = false := beq_eq_false_iff_ne.2 (by omega)
  have e2 : (((tl : Int) % 3) == 2) = true := beq_iff_eq.2 (by omega)
  have HFF : Hid (F.answers w.tape) := hF
  have GC : Hid (Calls Ybaf.prog 4 #[.slice ao len cap, .pointer (some ⟨w.heap.size + 1, 0, none⟩), .int .i64 5] ((w.alloc (.cells #[.int .u8 (dv : Int)] 5)).alloc (.cells #[.int .i64 0] 3)) fun e w' => ∃ t, e = .returned (BT.ptr t) ∧ Start w dv t w') := start w ao len cap dv hl hC
  clear hF hC
  go_enter Ybaf.func3, Ybaf.ntmps3
  go_wp2_with fail
  refine GC.out.mono ?_
  rintro e w1 ⟨t, rfl, hS⟩
  have HS : Hid (Start w dv t w1) := hS
  have RC : Hid (Calls Ybaf.prog 5 #[BT.ptr t, .int .i64 0] w1 (RP (Pl.rend t 0) w1)) := rend_any _ t 5 0 w1 (Nat.le_refl _) hS.good hS.tree
  obtain ⟨b1, o1, hptr⟩ := good_ptr hS.good
  rw [hptr] at RC ⊢
  have HPT : Hid (BT.ptr t = .pointer (some ⟨b1, o1, none⟩)) := hptr
  have sr : (mk (Pl.rend t 0)).size ≤ 100000 := by have q := Pl.len_rend t 5 0 hS.good; show (Pl.rend t 0).length ≤ 100000; omega
  clear hS hptr
  go_wp2_with fail
  refine RC.out.mono ?_
  rintro e w2 ⟨rfl, n2, rfl⟩
  have sa := ws_sz (((tl : Int) / 4)).toNat
  have sb := ws_sz (((tl : Int) / 16)).toNat
  have sa' := ws_sz (tl / 4)
  have sb' := ws_sz (tl / 16)
  go_wp2_with fail
  refine (ws_int _ (by omega) (by omega) _).mono ?_
  rintro e w3 ⟨rfl, rfl⟩
  go_wp2_with fail
  refine (ws_int _ (by omega) (by omega) _).mono ?_
  rintro e w3 ⟨rfl, rfl⟩
  rw [show ((tl : Int) / 4).toNat = tl / 4 by omega, show ((tl : Int) / 16).toNat = tl / 16 by omega]
  go_wp2_with fail
  generalize hs : (⟨#[40]⟩ : ByteArray) ++ mk (Pl.wsL (tl / 4)) ++ mk (Pl.rend t 0) ++ mk (Pl.wsL (tl / 16)) = s
  have hss : s = mk ([40] ++ Pl.wsL (tl / 4) ++ Pl.rend t 0 ++ Pl.wsL (tl / 16)) := by
    rw [← hs, show (⟨#[40]⟩ : ByteArray) = mk [40] from rfl]; simp only [mk_app]
  have hsz : s.size ≤ 1073741824 ∧ 1 ≤ s.size := by
    rw [hss, mk_size]
    have h1 : (Pl.rend t 0).length ≤ 100000 := sr
    have h2 : (Pl.wsL (tl / 4)).length ≤ 2 := sa'
    have h3 : (Pl.wsL (tl / 16)).length ≤ 2 := sb'
    simp only [List.length_append, List.length_cons, List.length_nil]
    omega
  obtain ⟨hsz, hsz1⟩ := hsz
  have PF : Hid (Calls Ybaf.prog 7 #[.string s] (w1.drewN n2) (Fault s.size (w1.drewN n2))) := by
    have hr0 : rst s 0 = 40 :: (Pl.wsL (tl / 4) ++ (Pl.rend t 0 ++ Pl.wsL (tl / 16))) := by rw [hss]; simp [rst, mk]
    refine Parse_fault s _ _ (parse_open dv 64 20 hdv (by decide) F s hsz (Pl.ev (dfB dv) t) (by rw [hr0]; rfl) ?_ (w1.drewN n2) ?_)
    · rw [hr0]
      exact Pl.whole (dfB dv) 64 t 5 20 HS.out.good (by decide) (by decide) (Pl.wsL (tl / 4)) (Pl.wsL (tl / 16)) (Pl.ws_wsL _) [] (Pl.skip_of_ws (Pl.ws_wsL _)) (by have := Pl.stop_ws (tl / 16) (l := []) rfl; simpa using this) (Or.inl rfl)
    · show F.answers w1.tape
      rw [HS.out.below.tape]; exact HFF.out
  clear hs hss sr sa sb sa' sb'
  refine PF.out.mono ?_
  rintro e w4 ⟨eb, m, rfl, hb4, hc4⟩
  have B4 : Hid (Below w.heap.size w w4) := (below_drewN HS.out.below _).trans (hb4.mono (by show w.heap.size ≤ w1.heap.size; have := HS.out.size; omega))
  have cc : w4.cell? ⟨eb, 0, none⟩ = some (.int .i64 (s.size : Int)) := by
    simp only [World.cell?, hc4]
    simp
  clear hb4 hc4
  have hta := tassert
  go_wp2_with fail
  go_ret
  exact ⟨rfl, B4.out⟩

set_option maxRecDepth 100000 in
set_option maxHeartbeats 1000000 in
theorem law_0 (w : World) (ao : Option Addr) (len cap dv tl : Nat) (hl : len ≤ 1048576) (hdv : dv < 256) (htl : tl < 256) (hC : CodeIn w (w.heap.size + 1) ao len) (h3 : tl % 3 = 0) :
    Calls Ybaf.prog 3 #[.slice ao len cap, .int .u8 (dv : Int), .int .u8 (tl : Int)] w (LP w) := by
  have e1 : (((tl : Int) % 3) == 1) = false := beq_eq_false_iff_ne.2 (by omega)
  have e2 : (((tl : Int) % 3) == 2) = false := beq_eq_false_iff_ne.2 (by omega)
  have GC : Hid (Calls Ybaf.prog 4 #[.slice ao len cap, .pointer (some ⟨w.heap.size + 1, 0, none⟩), .int .i64 5] ((w.alloc (.cells #[.int .u8 (dv : Int)] 5)).alloc (.cells #[.int .i64 0] 3)) fun e w' => ∃ t, e = .returned (BT.ptr t) ∧ Start w dv t w') := start w ao len cap dv hl hC
  clear hC
  go_enter Ybaf.func3, Ybaf.ntmps3
  go_wp2_with fail
  refine GC.out.mono ?_
  rintro e w1 ⟨t, rfl, hS⟩
  have HS : Hid (Start w dv t w1) := hS
  have RC : Hid (Calls Ybaf.prog 5 #[BT.ptr t, .int .i64 0] w1 (RP (Pl.rend t 0) w1)) := rend_any _ t 5 0 w1 (Nat.le_refl _) hS.good hS.tree
  obtain ⟨b1, o1, hptr⟩ := good_ptr hS.good
  rw [hptr] at RC ⊢
  have HPT : Hid (BT.ptr t = .pointer (some ⟨b1, o1, none⟩)) := hptr
  have sr : (mk (Pl.rend t 0)).size ≤ 100000 := by have q := Pl.len_rend t 5 0 hS.good; show (Pl.rend t 0).length ≤ 100000; omega
  clear hS hptr
  go_wp2_with fail
  refine RC.out.mono ?_
  rintro e w2 ⟨rfl, n2, rfl⟩
  have sa := ws_sz (((tl : Int) / 4)).toNat
  have sb := ws_sz (((tl : Int) / 16)).toNat
  have sa' := ws_sz (tl / 4)
  have sb' := ws_sz (tl / 16)
  go_wp2_with fail
  refine (ws_int _ (by omega) (by omega) _).mono ?_
  rintro e w3 ⟨rfl, rfl⟩
  go_wp2_with fail
  refine (ws_int _ (by omega) (by omega) _).mono ?_
  rintro e w3 ⟨rfl, rfl⟩
  rw [show ((tl : Int) / 4).toNat = tl / 4 by omega, show ((tl : Int) / 16).toNat = tl / 16 by omega]
  go_wp2_with fail
  generalize hs : mk (Pl.wsL (tl / 4)) ++ mk (Pl.rend t 0) ++ mk (Pl.wsL (tl / 16)) = s
  have hss : s = mk (Pl.wsL (tl / 4) ++ Pl.rend t 0 ++ Pl.wsL (tl / 16)) := by
    rw [← hs]; simp only [mk_app]
  have hsz : s.size ≤ 1073741824 := by
    rw [hss, mk_size]
    have h1 : (Pl.rend t 0).length ≤ 100000 := sr
    have h2 : (Pl.wsL (tl / 4)).length ≤ 2 := sa'
    have h3 : (Pl.wsL (tl / 16)).length ≤ 2 := sb'
    simp only [List.length_append]
    omega
  have PF : Hid (Calls Ybaf.prog 7 #[.string s] (w1.drewN n2) (Fine dv (Pl.ev (dfB dv) t) (w1.drewN n2))) := by
    refine Parse_ok dv 64 20 hdv (by decide) s hsz (Pl.ev (dfB dv) t) ?_ (w1.drewN n2)
    have hr0 : rst s 0 = Pl.wsL (tl / 4) ++ (Pl.rend t 0 ++ Pl.wsL (tl / 16)) := by rw [hss]; simp [rst, mk]
    rw [hr0]
    exact Pl.whole (dfB dv) 64 t 5 20 HS.out.good (by decide) (by decide) (Pl.wsL (tl / 4)) (Pl.wsL (tl / 16)) (Pl.ws_wsL _) [] (Pl.skip_of_ws (Pl.ws_wsL _)) (by have := Pl.stop_ws (tl / 16) (l := []) rfl; simpa using this) (Or.inl rfl)
  clear hs hss sr sa sb sa' sb'
  refine PF.out.mono ?_
  rintro e w4 ⟨T, x, Fs, rfl, hb4, hd4⟩
  have B4 : Hid (Below w.heap.size w w4) := (below_drewN HS.out.below _).trans (hb4.mono (by show w.heap.size ≤ w1.heap.size; have := HS.out.size; omega))
  have S4 : Hid (w.heap.size + 2 ≤ w4.heap.size) := Nat.le_trans HS.out.size hb4.size
  have T4 : Hid (TreeAt (w.heap.size + 2) w4 t) := TreeAt.same t HS.out.tree (fun k _ hk => hb4.block k hk)
  have D4 : Hid (w4.cell? ⟨w.heap.size, 0, none⟩ = some (.int .u8 (dv : Int))) := by
    show _ = _
    rw [hb4.cell (p := ⟨w.heap.size, 0, none⟩) (by show w.heap.size < w1.heap.size; have := HS.out.size; omega)]
    exact HS.out.defd
  have HD : Hid (Den dv Fs w4 (.iface T x) (Pl.ev (dfB dv) t)) := hd4
  clear hb4 hd4
  obtain ⟨h0, T', x', fn, y, hv, hm, hcf, hc⟩ := HD.out
  injection hv with hT hx
  subst hT
  subst hx
  have HCL : Hid (Calls Ybaf.prog fn #[y, .func (Fn.func 8) #[] #[.pointer (some ⟨w.heap.size, 0, none⟩), .pointer (some ⟨w4.heap.size, 0, none⟩)]] (w4.alloc (.cells #[.bool false] 4)) fun e w'' => e = .returned (.bool (Pl.ev (dfB dv) t)) ∧ Below (w4.alloc (.cells #[.bool false] 4)).heap.size (w4.alloc (.cells #[.bool false] 4)) w'') := by
    refine hc (w4.alloc (.cells #[.bool false] 4)) w.heap.size w4.heap.size (fun k hk => Below.heap_alloc _ _ _ (h0 k hk)) ?_
    rw [World.cell?_alloc_lt _ _ _ (by show w.heap.size < w4.heap.size; have := S4.out; omega)]
    exact D4.out
  clear h0 hc
  have hmf : ∀ (fn : Fn) (first cap : Array Value) (w : World), (Instr.makeFunc fn first cap).run Ybaf.prog w = .ok (.func fn first cap) w := fun _ _ _ _ => rfl
  go_wp2_with fail
  refine HCL.out.mono ?_
  rintro e w5 ⟨rfl, hb5⟩
  have B5 : Hid (Below w.heap.size w w5) := (B4.out.alloc (by have := S4.out; omega) _).trans (hb5.mono (by have := S4.out; simp; omega))
  have T5 : Hid (TreeAt (w.heap.size + 2) w5 t) := TreeAt.same t T4.out (fun k _ hk => by rw [hb5.block k (by simp; omega), Below.heap_alloc _ _ _ hk])
  have d5 : w5.cell? ⟨w.heap.size, 0, none⟩ = some (.int .u8 (dv : Int)) := by
    rw [hb5.cell (p := ⟨w.heap.size, 0, none⟩) (by have := S4.out; simp; omega), World.cell?_alloc_lt _ _ _ (by show w.heap.size < w4.heap.size; have := S4.out; omega)]
    exact D4.out
  have bad5 : w5.cell? ⟨w4.heap.size, 0, none⟩ = some (.bool false) := by
    rw [hb5.cell (p := ⟨w4.heap.size, 0, none⟩) (by simp)]
    simp
  have EV : Hid (Calls _ _ _ _ _) := eval_any dv hdv _ w5 t 5 HS.out.good T5.out
  rw [HPT.out] at EV
  clear hb5 hm hcf hmf
  go_wp2_with fail
  refine EV.out.mono ?_
  rintro e w6 ⟨rfl, rfl⟩
  go_wp2_with fail
  go_ret
  exact ⟨ret_bool (by simp), B5.out⟩

end Go.Proofs.YbulkfrueFmt
