import Derived.Test.YboneseleGreatFmtFm
namespace Go.Proofs.YboneseleGreatFmt
open Go.RowKit Go.Extern.Stop Go.Stop Go.Extern
attribute [local go_sem] Ybgs.call15 Ybgs.guard Ybgs.fmt1 Ybgs.fmt1r Ybgs.op9_113

theorem pb_new (w : World) (s : ByteArray) : PB (w.alloc (.cells #[.string s, .int .i64 0, .int .i64 0, .pointer none] 91)) w.heap.size s 0 0 (.pointer none) := by
  unfold PB; exact alloc_at _ _ _ rfl

/-- what the parse of a text that is read to its end leaves -/
def Fine (eb : Nat) (E : World → Prop) (bv : Bool) (w : World) (e : Ending) (w' : World) : Prop :=
  ∃ T x F, e = .returned (.tuple #[.iface T x, .nilIface]) ∧ Below w.heap.size w w' ∧ Den eb E F w' (.iface T x) bv
/-- what the parse of a text with a fault at place o leaves -/
def Fault (o : Nat) (w : World) (e : Ending) (w' : World) : Prop :=
  ∃ eb m, e = .returned (.tuple #[.nilIface, .iface 75 (.pointer (some ⟨eb, 0, none⟩))]) ∧ Below w.heap.size w w' ∧ w'.heap[eb]? = some (.cells #[.int .i64 (o : Int), .string m] 78)

set_option maxRecDepth 100000 in
set_option maxHeartbeats 1000000 in
theorem parse_ok (eb : Nat) (D : List UInt8 → Option Bool) (E : World → Prop) (N f : Nat) (hC : Cls eb D E) (hf : f ≤ 1000) (s : ByteArray) (hs : s.size ≤ 1073741824) (bv : Bool) (hA : Pl.orL (Pl.andL (Pl.notF (D) N f) N true) N false (rst s 0) = some (bv, [])) (w : World) :
    Calls Ybgs.prog 9 #[.string s] w fun e w' => ∃ T x F, e = .returned (.tuple #[.iface T x, .pointer none]) ∧ Below w.heap.size w w' ∧ Den eb E F w' (.iface T x) bv := by
  have HO : Hid (OrC eb D E N f) := orc_any eb D E N hC f
  have HA : Hid (Pl.orL (Pl.andL (Pl.notF (D) N f) N true) N false (rst s 0) = some (bv, [])) := hA
  clear hA
  go_enter Ybgs.func9, Ybgs.ntmps9
  go_wp2_with fail
  refine (HO.out _ w.heap.size s 0 0 bv [] (pb_new w s) (Nat.zero_le _) hs (by omega) HA.out).mono ?_
  rintro e w1 ⟨v1, F1, j1, rfl, hk1, hj1, hjj, hr1, hp1, hd1, hlo1⟩
  obtain rfl : j1 = s.size := by
    have := congrArg List.length hr1
    rw [rst_len] at this; simp at this; omega
  have BL : Hid (Below w.heap.size w w1) := ((Below.refl _ _).alloc (Nat.le_refl _) _).trans (hk1.toBelow (Nat.le_refl _) (by simp))
  have HP1 : Hid (PB w1 w.heap.size s s.size 0 (.pointer none)) := hp1
  have HD1 : Hid (Den eb E F1 w1 v1 bv) := hd1
  have HLO : Hid (∀ k, k ∈ F1 → w.heap.size + 1 ≤ k) := fun k hk => by have := hlo1 k hk; rwa [World.size_alloc] at this
  have c3 := hp1.c3
  clear hk1 hp1 hd1 hlo1 hr1
  obtain ⟨hF2, T, x, fn, y, rfl, hrest⟩ := HD1.out
  clear hF2 hrest
  go_wp2_with fail
  refine (peek_any w1 w.heap.size s s.size 0 _ HP1.out (Nat.le_refl _) (by unfold maxLen; omega)).mono ?_
  rintro e w2 ⟨rfl, hk2, j2, hj2, hr2, hp2⟩
  have hz : rst s s.size = [] := rst_end s _ (Nat.le_refl _)
  rw [hz]
  rw [show mk (tok (Pl.skip [])) = ⟨#[]⟩ from rfl]
  have BL2 : Hid (Below w.heap.size w w2) := BL.out.trans (hk2.toBelow (Nat.le_refl _) BL.out.size)
  have HD2 : Hid (Den eb E F1 w2 (.iface T x) bv) := HD1.out.later hk2.size (fun k hk => hk2.block k (HD1.out.1 k hk) (by have := HLO.out k hk; omega))
  have c4 := hp2.c3
  clear hk2 hp2 hr2 c3 hz
  go_wp2_with fail
  go_ret2
  exact ⟨T, x, F1, rfl, BL2.out, HD2.out⟩

set_option maxRecDepth 100000 in
set_option maxHeartbeats 1000000 in
theorem Parse_ok (eb : Nat) (D : List UInt8 → Option Bool) (E : World → Prop) (N f : Nat) (hC : Cls eb D E) (hf : f ≤ 1000) (s : ByteArray) (hs : s.size ≤ 1073741824) (bv : Bool) (hA : Pl.orL (Pl.andL (Pl.notF (D) N f) N true) N false (rst s 0) = some (bv, [])) (w : World) :
    Calls Ybgs.prog 7 #[.string s] w (Fine eb E bv w) := by
  have HP : Hid (Calls _ _ _ _ _) := parse_ok eb D E N f hC hf s hs bv hA w
  clear hA
  go_enter Ybgs.func7, Ybgs.ntmps7
  go_wp2_with fail
  refine HP.out.mono ?_
  rintro e w1 ⟨T, x, F1, rfl, hb, hd⟩
  have HB : Hid (Below w.heap.size w w1) := hb
  have HD : Hid (Den eb E F1 w1 (.iface T x) bv) := hd
  clear hb hd
  go_wp2_with fail
  go_ret2
  exact ⟨T, x, F1, rfl, HB.out, HD.out⟩

set_option maxRecDepth 100000 in
set_option maxHeartbeats 1000000 in
theorem parse_tail (eb : Nat) (D : List UInt8 → Option Bool) (E : World → Prop) (N f : Nat) (hC : Cls eb D E) (hf : f ≤ 1000) (F : Interp) (s : ByteArray) (hs : s.size ≤ 1073741824) (bv : Bool) (r : List UInt8) (hA : Pl.orL (Pl.andL (Pl.notF (D) N f) N true) N false (rst s 0) = some (bv, 41 :: r)) (w : World) (hF : F.answers w.tape) :
    Calls Ybgs.prog 9 #[.string s] w fun e w' => ∃ eb m, e = .returned (.tuple #[.nilIface, .pointer (some ⟨eb, 0, none⟩)]) ∧ Below w.heap.size w w' ∧ w'.heap[eb]? = some (.cells #[.int .i64 ((s.size - (r.length + 1) : Nat) : Int), .string m] 78) := by
  have HO : Hid (OrC eb D E N f) := orc_any eb D E N hC f
  have HA : Hid (Pl.orL (Pl.andL (Pl.notF (D) N f) N true) N false (rst s 0) = some (bv, 41 :: r)) := hA
  have HFF : Hid (F.answers w.tape) := hF
  clear hA hF
  go_enter Ybgs.func9, Ybgs.ntmps9
  go_wp2_with fail
  refine (HO.out _ w.heap.size s 0 0 bv (41 :: r) (pb_new w s) (Nat.zero_le _) hs (by omega) HA.out).mono ?_
  rintro e w1 ⟨v1, F1, j1, rfl, hk1, hj1, hjj, hr1, hp1, hd1, hlo1⟩
  have hjr : j1 = s.size - (r.length + 1) := by
    have := congrArg List.length hr1
    rw [rst_len] at this; simp at this; omega
  have BL : Hid (Below w.heap.size w w1) := ((Below.refl _ _).alloc (Nat.le_refl _) _).trans (hk1.toBelow (Nat.le_refl _) (by simp))
  have HP1 : Hid (PB w1 w.heap.size s j1 0 (.pointer none)) := hp1
  have HR1 : Hid (rst s j1 = 41 :: r) := hr1
  have HJR : Hid (j1 = s.size - (r.length + 1)) := hjr
  have c3 := hp1.c3
  obtain ⟨hF2, T, x, fn, y, rfl, hrest⟩ := hd1
  clear hF2 hrest hk1 hp1 hlo1 hr1 hjr
  have PK : Hid (∀ W, PB W w.heap.size s j1 0 (.pointer none) → Calls Ybgs.prog 13 #[.pointer (some ⟨w.heap.size, 0, none⟩)] W fun e w' => e = .returned (.string ⟨#[41]⟩) ∧ Keep w.heap.size W w' ∧ PB w' w.heap.size s j1 0 (.pointer none)) := by
    intro W hW
    refine (peek_any W w.heap.size s j1 0 _ hW hj1 (by unfold maxLen; omega)).mono ?_
    rintro e w' ⟨rfl, hk, j, hj, hr, hp⟩
    rw [HR1.out] at hr ⊢
    have e41 : Pl.skip (41 :: r) = 41 :: r := Pl.skip_cons (by decide) r
    rw [e41] at hr ⊢
    have := congrArg List.length hr
    rw [rst_len] at this
    have h2 := congrArg List.length HR1.out
    rw [rst_len] at h2
    simp only [List.length_cons] at this h2
    obtain rfl : j = j1 := by omega
    exact ⟨rfl, hk, hp⟩
  go_wp2_with fail
  refine (PK.out w1 HP1.out).mono ?_
  rintro e w2 ⟨rfl, hk2, hp2⟩
  have BL2 : Hid (Below w.heap.size w w2) := BL.out.trans (hk2.toBelow (Nat.le_refl _) BL.out.size)
  have HP2 : Hid (PB w2 w.heap.size s j1 0 (.pointer none)) := hp2
  clear hk2 hp2 c3
  go_wp2_with fail
  refine (PK.out w2 HP2.out).mono ?_
  rintro e w3 ⟨rfl, hk3, hp3⟩
  have BL3 : Hid (Below w.heap.size w w3) := BL2.out.trans (hk3.toBelow (Nat.le_refl _) BL2.out.size)
  have HP3 : Hid (PB w3 w.heap.size s j1 0 (.pointer none)) := hp3
  have hF3 := answers_open (show F.answers w3.tape by rw [BL3.out.tape]; exact HFF.out)
  clear hk3 hp3
  go_wp2_with fail
  refine (fail_any w.heap.size s _ j1 0 _ ?_).mono ?_
  · exact HP3.out.alloc _
  rintro e w4 ⟨rfl, hw4⟩
  have hs3 := HP3.out.lt
  have BL4 : Hid (Below w.heap.size w w4) := by
    rw [hw4]
    exact (((BL3.out.alloc BL3.out.size _).drew.setCell (Nat.le_refl _) _)).alloc (by simp; omega) _
  have E4 : Hid (∃ m, w4.heap[w3.heap.size + 1]? = some (.cells #[.int .i64 (j1 : Int), .string m] 78)) := by
    rw [hw4]
    exact ⟨_, alloc_at _ _ _ (by simp)⟩
  have c3 : w4.cell? ⟨w.heap.size, 3, none⟩ = some (.pointer (some ⟨w3.heap.size + 1, 0, none⟩)) := by
    rw [hw4]
    have := (((HP3.out.alloc (.cells #[.iface 9 (.string ⟨#[41]⟩)] 20)).drew.set3 (.pointer (some ⟨w3.heap.size + 1, 0, none⟩))).alloc (.cells #[.int .i64 (j1 : Int), .string (FmtStop.textOf (F "fmt.Sprintf" [[117, 110, 101, 120, 112, 101, 99, 116, 101, 100, 32, 37, 113], Ybgs.shape9, FmtStop.pack [41]] 0))] 78)).c3
    simpa using this
  clear hw4 hF3
  go_wp2_with fail
  go_quiet (fail)
  go_wp2_with fail
  go_ret2
  obtain ⟨m, hm⟩ := E4.out
  exact ⟨_, m, rfl, below_drewN BL4.out _, by rw [← HJR.out]; exact hm⟩

set_option maxRecDepth 100000 in
set_option maxHeartbeats 1000000 in
theorem Parse_fault (s : ByteArray) (o : Nat) (w : World) (h : Calls Ybgs.prog 9 #[.string s] w fun e w' => ∃ eb m, e = .returned (.tuple #[.nilIface, .pointer (some ⟨eb, 0, none⟩)]) ∧ Below w.heap.size w w' ∧ w'.heap[eb]? = some (.cells #[.int .i64 (o : Int), .string m] 78)) :
    Calls Ybgs.prog 7 #[.string s] w (Fault o w) := by
  have HP : Hid (Calls _ _ _ _ _) := h
  clear h
  go_enter Ybgs.func7, Ybgs.ntmps7
  go_wp2_with fail
  refine HP.out.mono ?_
  rintro e w1 ⟨eb, m, rfl, hb, hc⟩
  have HB : Hid (Below w.heap.size w w1) := hb
  have HC : Hid (w1.heap[eb]? = some (.cells #[.int .i64 (o : Int), .string m] 78)) := hc
  clear hb hc
  go_wp2_with fail
  go_ret2
  exact ⟨eb, m, rfl, HB.out, HC.out⟩

end Go.Proofs.YboneseleGreatFmt
