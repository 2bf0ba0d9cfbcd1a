import Derived.Test.YboneseleGreatFmtWc
import Derived.Test.YboneseleGreatFmtPc
import Derived.Maps.OwnSet
import Derived.Maps.StringElems
/-
  THE ENVIRONMENT: what 'defined' answers.
-/
namespace Go.Proofs.YboneseleGreatFmt
open Go.RowKit Go.WideMaps Go.Maps

set_option maxHeartbeats 400000 in
theorem cn_any (k : Nat) (w : World) : Calls Ybgs.prog 4 #[.int .i64 (k : Int)] w fun e w' => e = .returned (.string (mk (Pl.nmC k))) ∧ w' = w := by
  by_cases h0 : k = 0
  · subst h0
    go_enter Ybgs.func4, Ybgs.ntmps4
    go_wp2
    go_ret
    exact ⟨rfl, rfl⟩
  by_cases h1 : k = 1
  · subst h1
    go_enter Ybgs.func4, Ybgs.ntmps4
    go_wp2
    go_ret
    exact ⟨rfl, rfl⟩
  by_cases h2 : k = 2
  · subst h2
    go_enter Ybgs.func4, Ybgs.ntmps4
    go_wp2
    go_ret
    exact ⟨rfl, rfl⟩
  by_cases h3 : k = 3
  · subst h3
    go_enter Ybgs.func4, Ybgs.ntmps4
    go_wp2
    go_ret
    exact ⟨rfl, rfl⟩
  · have e0 : ((k : Int) == 0) = false := beq_eq_false_iff_ne.2 (by omega)
    have e1 : ((k : Int) == 1) = false := beq_eq_false_iff_ne.2 (by omega)
    have e2 : ((k : Int) == 2) = false := beq_eq_false_iff_ne.2 (by omega)
    have e3 : ((k : Int) == 3) = false := beq_eq_false_iff_ne.2 (by omega)
    have H : Hid (Pl.nmC k = [97, 110, 121, 95, 49]) := by unfold Pl.nmC; rw [if_neg h0, if_neg h1, if_neg h2, if_neg h3]; rfl
    clear h0 h1 h2 h3
    go_enter Ybgs.func4, Ybgs.ntmps4
    go_wp2
    go_ret
    exact ⟨ret_str (by rw [H.out]; rfl), rfl⟩

set_option maxHeartbeats 400000 in
theorem op_any (k : Nat) (hk : k < 4) (w : World) : Calls Ybgs.prog 5 #[.int .u8 (k : Int)] w fun e w' => e = .returned (.string (mk (Pl.opC k))) ∧ w' = w := by
  rcases (show k = 0 ∨ k = 1 ∨ k = 2 ∨ k = 3 by omega) with rfl | rfl | rfl | rfl
  all_goals
    go_enter Ybgs.func5, Ybgs.ntmps5
    go_wp2
    go_ret
    exact ⟨rfl, rfl⟩

theorem ret_two {a a' : ByteArray} {b b' : Bool} (ha : a = a') (hb : b = b') : Ending.returned (.tuple #[.string a, .bool b]) = .returned (.tuple #[.string a', .bool b']) := by rw [ha, hb]
/-- a name without what 'default:' adds -/
def strip (nm : List UInt8) : List UInt8 := if nm.take 8 = Pl.pre then nm.drop 8 else nm

theorem pre_test (nm : List UInt8) : (((mk nm).extract 0 8).toList == [100, 101, 102, 97, 117, 108, 116, 58]) = decide (nm.take 8 = Pl.pre) := by
  rw [Lib.toList_data, Lib.extract_data]
  show (nm.take 8 == Pl.pre) = _
  rw [Bool.eq_iff_iff, beq_iff_eq, decide_eq_true_iff]

set_option maxRecDepth 100000 in
set_option maxHeartbeats 400000 in
theorem cut_any (nm : List UInt8) (hl : nm.length ≤ 1000) (w : World) : Calls Ybgs.prog 10 #[.string (mk nm), .string ⟨#[100, 101, 102, 97, 117, 108, 116, 58]⟩] w fun e w' => e = .returned (.tuple #[.string (mk (strip nm)), .bool (decide (nm.take 8 = Pl.pre))]) ∧ w' = w := by
  have ht := pre_test nm
  have hsz : (mk nm).size = nm.length := rfl
  have HS : Hid ((mk nm).size = nm.length) := hsz
  by_cases hp : nm.take 8 = Pl.pre
  · have h8 : (8 : Nat) ≤ (mk nm).size := by
      have := congrArg List.length hp
      rw [List.length_take] at this
      have e : Pl.pre.length = 8 := rfl
      rw [hsz]; omega
    have HE : Hid ((mk nm).extract 8 (mk nm).size = mk (strip nm)) := by
      show _ = _
      apply mk_of
      rw [Lib.extract_to_end]
      simp [strip, hp, mk]
    simp only [hp, decide_true] at ht
    have HP : Hid (nm.take 8 = Pl.pre) := hp
    have HT : Hid (decide (nm.take 8 = Pl.pre) = true) := by show _ = _; rw [hp]; rfl
    clear hp hsz
    go_enter Ybgs.func10, Ybgs.ntmps10
    go_wp2
    go_ret2
    exact ⟨ret_two HE.out HT.out.symm, rfl⟩
  · have HE : Hid (mk nm = mk (strip nm)) := by show _ = _; simp [strip, hp]
    have HT : Hid (decide (nm.take 8 = Pl.pre) = false) := by show _ = _; simp [hp]
    simp only [hp, decide_false] at ht
    clear hp hsz
    by_cases h8 : (8 : Nat) ≤ (mk nm).size
    · go_enter Ybgs.func10, Ybgs.ntmps10
      go_wp2
      go_ret2
      exact ⟨ret_two HE.out HT.out.symm, rfl⟩
    · go_enter Ybgs.func10, Ybgs.ntmps10
      go_wp2
      go_ret2
      exact ⟨ret_two HE.out HT.out.symm, rfl⟩

theorem law9 : Keyed Ybgs.prog 9 := string_keyed Ybgs.underlying9
theorem zero24 (w : World) : (zeroValue 24).run Ybgs.prog w = .ok (.string ⟨#[]⟩) w := by kernel_rfl
theorem zero4 (w : World) : (zeroValue 4).run Ybgs.prog w = .ok (.bool false) w := by kernel_rfl

/-- block b is a map of classes that holds just the names of S -/
def ClsAt (w : World) (b n : Nat) (S : List UInt8 → Bool) : Prop := ∃ D : DataW Unit, w.ownsMap Ybgs.prog 9 (plainElem Ybgs.prog 24) b n D ∧ ∀ nm, Maps.has D (.string nm) = S nm
/-- block b is a map of bools that is true just at the names of S -/
def NegAt (w : World) (b n : Nat) (S : List UInt8 → Bool) : Prop := ∃ D : DataW Unit, w.ownsMap Ybgs.prog 9 (plainElem Ybgs.prog 4) b n D ∧ ∀ nm, D.atKey (.string nm) (.lit (.bool false)) = .lit (.bool (S nm))

theorem plainElem_bool_inv {H : Type} {P : Program} {e : TypeId} (he : P.underlying e = some .bool) {v : Value} {z : DataW H × List MemPlace} (h : plainElem P e v = some z) : ∃ x : Bool, v = .bool x ∧ z = (.lit (.bool x), []) := by
  unfold plainElem at h
  rw [he] at h
  cases v <;> simp at h
  exact ⟨_, rfl, h.symm⟩
theorem key9 (nm : List UInt8) (h : nm.length ≤ 1000) : keyOf Ybgs.prog 9 (.string (mk nm)) = some (.string nm) := by
  have := keyOf_string_mk (P := Ybgs.prog) Ybgs.underlying9 (s := mk nm) (by show nm.length ≤ maxLen; unfold maxLen; omega)
  exact this

set_option maxRecDepth 100000 in
theorem ClsAt.look {w : World} {b n : Nat} {S : List UInt8 → Bool} (h : ClsAt w b n S) (nm : List UInt8) (hl : nm.length ≤ 1000) : ∃ v, (Instr.lookup 27 (.map (some b)) (.string (mk nm)) true).run Ybgs.prog w = .ok (.tuple #[v, .bool (S nm)]) w ∧ ∃ s, v = .string s := by
  obtain ⟨D, ho, hS⟩ := h
  obtain ⟨v, ps, hrun, hv⟩ := ho.look_ok law9 Ybgs.underlying27 (zero24 w) (plainElem_string (s := ⟨#[]⟩) Ybgs.underlying24 (by decide)) (key9 nm hl)
  rw [hS nm] at hrun
  obtain ⟨s, rfl, _, _⟩ := plainElem_string_inv Ybgs.underlying24 hv
  exact ⟨_, hrun, s, rfl⟩
set_option maxRecDepth 100000 in
theorem NegAt.look {w : World} {b n : Nat} {S : List UInt8 → Bool} (h : NegAt w b n S) (nm : List UInt8) (hl : nm.length ≤ 1000) : (Instr.lookup 28 (.map (some b)) (.string (mk nm)) false).run Ybgs.prog w = .ok (.bool (S nm)) w := by
  obtain ⟨D, ho, hS⟩ := h
  obtain ⟨v, ps, hrun, hv⟩ := ho.lookup law9 Ybgs.underlying28 (zero4 w) (plainElem_bool Ybgs.underlying4 false) (key9 nm hl)
  rw [hS nm] at hv
  obtain ⟨x, rfl, hx⟩ := plainElem_bool_inv Ybgs.underlying4 hv
  injection hx with hx1 hx2
  injection hx1 with hx1
  injection hx1 with hx1
  rw [hrun, hx1]

set_option maxRecDepth 100000 in
set_option maxHeartbeats 400000 in
theorem has_any (w : World) (b n : Nat) (S : List UInt8 → Bool) (h : ClsAt w b n S) (nm : List UInt8) (hl : nm.length ≤ 1000) : Calls Ybgs.prog 11 #[.map (some b), .string (mk nm)] w fun e w' => e = .returned (.bool (S nm)) ∧ w' = w := by
  obtain ⟨v, hrun, s, rfl⟩ := h.look nm hl
  clear h
  go_enter Ybgs.func11, Ybgs.ntmps11
  go_wp2
  go_ret
  exact ⟨rfl, rfl⟩

theorem ClsAt.below {w w' : World} {b n : Nat} {S : List UInt8 → Bool} (h : ClsAt w b n S) (k : Below w.heap.size w w') : ClsAt w' b n S := by
  obtain ⟨D, ho, hS⟩ := h
  exact ⟨D, ho.kept (row := none) ⟨k.os, k.tape, k.output, k.size, fun i hi _ => k.block i hi⟩ (by simp), hS⟩
theorem NegAt.below {w w' : World} {b n : Nat} {S : List UInt8 → Bool} (h : NegAt w b n S) (k : Below w.heap.size w w') : NegAt w' b n S := by
  obtain ⟨D, ho, hS⟩ := h
  exact ⟨D, ho.kept (row := none) ⟨k.os, k.tape, k.output, k.size, fun i hi _ => k.block i hi⟩ (by simp), hS⟩

/-- the environment: its run's two maps, its frame's map (none where there is no frame) -/
structure EnvAt (eb rb mc mn : Nat) (fo : Option (Nat × Nat)) (Sc Sn Sf : List UInt8 → Bool) (w : World) : Prop where
  e0 : w.cell? ⟨eb, 0, none⟩ = some (.pointer (some ⟨rb, 0, none⟩))
  e3 : w.cell? ⟨eb, 3, none⟩ = some (.pointer (fo.map fun p => ⟨p.1, 0, none⟩))
  r5 : w.cell? ⟨rb, 12, none⟩ = some (.map (some mc))
  r6 : w.cell? ⟨rb, 13, none⟩ = some (.map (some mn))
  f2 : ∀ fb mf, fo = some (fb, mf) → w.cell? ⟨fb, 3, none⟩ = some (.map (some mf)) ∧ ClsAt w mf 5 Sf
  c : ClsAt w mc 5 Sc
  n : NegAt w mn 5 Sn

/-- what 'defined' says of such a name -/
def dfn (fo : Option (Nat × Nat)) (Sc Sn Sf : List UInt8 → Bool) (nm : List UInt8) : Bool := !Sn nm && (Sc nm || (fo.isSome && Sf nm))
def DD (fo : Option (Nat × Nat)) (Sc Sn Sf : List UInt8 → Bool) (nm : List UInt8) : Option Bool := if nm.length ≤ 1000 then some (dfn fo Sc Sn Sf (strip nm)) else none

theorem strip_len (nm : List UInt8) (h : nm.length ≤ 1000) : (strip nm).length ≤ 1000 := by
  unfold strip
  split
  · simp only [List.length_drop]; omega
  · exact h

set_option maxRecDepth 100000 in
set_option maxHeartbeats 2000000 in
theorem defd_any {eb rb mc mn : Nat} {fo : Option (Nat × Nat)} {Sc Sn Sf : List UInt8 → Bool} {w : World} (h : EnvAt eb rb mc mn fo Sc Sn Sf w) (nm : List UInt8) (hl : nm.length ≤ 1000) :
    Calls Ybgs.prog 8 #[.pointer (some ⟨eb, 0, none⟩), .string (mk nm)] w fun e w' => e = .returned (.bool (dfn fo Sc Sn Sf (strip nm))) ∧ w' = w := by
  have CUT : Hid (∀ w, Calls Ybgs.prog 10 #[.string (mk nm), .string ⟨#[100, 101, 102, 97, 117, 108, 116, 58]⟩] w fun e w' => e = .returned (.tuple #[.string (mk (strip nm)), .bool (decide (nm.take 8 = Pl.pre))]) ∧ w' = w) := fun w => cut_any nm hl w
  have hsl := strip_len nm hl
  have e0 := h.e0
  have e3 := h.e3
  have r5 := h.r5
  have r6 := h.r6
  have lk := h.n.look (strip nm) hsl
  have HC : Hid (Calls _ _ _ _ _) := has_any w mc 5 Sc h.c (strip nm) hsl
  have HF : Hid (∀ fb mf, fo = some (fb, mf) → w.cell? ⟨fb, 3, none⟩ = some (.map (some mf)) ∧ Calls Ybgs.prog 11 #[.map (some mf), .string (mk (strip nm))] w fun e w' => e = .returned (.bool (Sf (strip nm))) ∧ w' = w) :=
    fun fb mf hfo => ⟨(h.f2 fb mf hfo).1, has_any w mf 5 Sf (h.f2 fb mf hfo).2 (strip nm) hsl⟩
  have NOP : Hid (decide (nm.take 8 = Pl.pre) = false → strip nm = nm) := by
    intro hd
    unfold strip
    rw [if_neg (of_decide_eq_false hd)]
  have HR : Hid (dfn fo Sc Sn Sf (strip nm) = (!Sn (strip nm) && (Sc (strip nm) || (fo.isSome && Sf (strip nm))))) := rfl
  generalize hd : decide (nm.take 8 = Pl.pre) = dp at CUT NOP
  generalize hsn : Sn (strip nm) = sn at lk HR
  generalize hsc : Sc (strip nm) = sc at HC HR
  generalize hsf : Sf (strip nm) = sf at HF HR
  generalize hst : strip nm = x at *
  clear h hsn hsc hsf hd hst hsl
  have KEY : Hid (Ending.returned (.bool (!sn && (sc || (fo.isSome && sf)))) = .returned (.bool (dfn fo Sc Sn Sf x))) := ret_bool HR.out.symm
  clear HR
  cases dp with
  | true =>
    cases sn with
    | true =>
      go_enter Ybgs.func8, Ybgs.ntmps8
      go_wp2_with fail
      refine (CUT.out _).mono ?_
      rintro e w' ⟨rfl, rfl⟩
      go_wp2_with fail
      go_ret
      exact ⟨KEY.out, rfl⟩
    | false =>
      cases sc with
      | true =>
        go_enter Ybgs.func8, Ybgs.ntmps8
        go_wp2_with fail
        refine (CUT.out _).mono ?_
        rintro e w' ⟨rfl, rfl⟩
        go_wp2_with fail
        refine HC.out.mono ?_
        rintro e w' ⟨rfl, rfl⟩
        go_wp2_with fail
        go_ret
        exact ⟨KEY.out, rfl⟩
      | false =>
        cases fo with
        | none =>
          go_enter Ybgs.func8, Ybgs.ntmps8
          go_wp2_with fail
          refine (CUT.out _).mono ?_
          rintro e w' ⟨rfl, rfl⟩
          go_wp2_with fail
          refine HC.out.mono ?_
          rintro e w' ⟨rfl, rfl⟩
          go_wp2_with fail
          go_ret
          exact ⟨KEY.out, rfl⟩
        | some p =>
          obtain ⟨fb, mf⟩ := p
          obtain ⟨f2, HF2⟩ := HF.out fb mf rfl
          have HF3 : Hid (Calls _ _ _ _ _) := HF2
          clear HF2 HF
          go_enter Ybgs.func8, Ybgs.ntmps8
          go_wp2_with fail
          refine (CUT.out _).mono ?_
          rintro e w' ⟨rfl, rfl⟩
          go_wp2_with fail
          refine HC.out.mono ?_
          rintro e w' ⟨rfl, rfl⟩
          go_wp2_with fail
          refine HF3.out.mono ?_
          rintro e w' ⟨rfl, rfl⟩
          go_wp2_with fail
          go_ret
          exact ⟨KEY.out, rfl⟩
  | false =>
    obtain rfl := NOP.out rfl
    cases sn with
    | true =>
      go_enter Ybgs.func8, Ybgs.ntmps8
      go_wp2_with fail
      refine (CUT.out _).mono ?_
      rintro e w' ⟨rfl, rfl⟩
      go_wp2_with fail
      go_ret
      exact ⟨KEY.out, rfl⟩
    | false =>
      cases sc with
      | true =>
        go_enter Ybgs.func8, Ybgs.ntmps8
        go_wp2_with fail
        refine (CUT.out _).mono ?_
        rintro e w' ⟨rfl, rfl⟩
        go_wp2_with fail
        refine HC.out.mono ?_
        rintro e w' ⟨rfl, rfl⟩
        go_wp2_with fail
        go_ret
        exact ⟨KEY.out, rfl⟩
      | false =>
        cases fo with
        | none =>
          go_enter Ybgs.func8, Ybgs.ntmps8
          go_wp2_with fail
          refine (CUT.out _).mono ?_
          rintro e w' ⟨rfl, rfl⟩
          go_wp2_with fail
          refine HC.out.mono ?_
          rintro e w' ⟨rfl, rfl⟩
          go_wp2_with fail
          go_ret
          exact ⟨KEY.out, rfl⟩
        | some p =>
          obtain ⟨fb, mf⟩ := p
          obtain ⟨f2, HF2⟩ := HF.out fb mf rfl
          have HF3 : Hid (Calls _ _ _ _ _) := HF2
          clear HF2 HF
          go_enter Ybgs.func8, Ybgs.ntmps8
          go_wp2_with fail
          refine (CUT.out _).mono ?_
          rintro e w' ⟨rfl, rfl⟩
          go_wp2_with fail
          refine HC.out.mono ?_
          rintro e w' ⟨rfl, rfl⟩
          go_wp2_with fail
          refine HF3.out.mono ?_
          rintro e w' ⟨rfl, rfl⟩
          go_wp2_with fail
          go_ret
          exact ⟨KEY.out, rfl⟩

theorem env_cls (eb rb mc mn : Nat) (fo : Option (Nat × Nat)) (Sc Sn Sf : List UInt8 → Bool) : Cls eb (DD fo Sc Sn Sf) (EnvAt eb rb mc mn fo Sc Sn Sf) := by
  refine ⟨fun w w' h k => ?_, fun w nm bv h hD => ?_⟩
  · have cl : ∀ {p : Addr} {v : Value}, w.cell? p = some v → w'.cell? p = some v := fun {p v} hp => by
      rw [k.cell (World.block_lt_of_cell? _ _ hp)]; exact hp
    exact ⟨cl h.e0, cl h.e3, cl h.r5, cl h.r6, fun fb mf hfo => ⟨cl (h.f2 fb mf hfo).1, (h.f2 fb mf hfo).2.below k⟩, h.c.below k, h.n.below k⟩
  · unfold DD at hD
    split at hD
    · rename_i hl
      injection hD with hD
      refine (defd_any h nm hl).mono ?_
      rintro e w' ⟨rfl, rfl⟩
      exact ⟨ret_bool hD, Below.refl _ _⟩
    · cases hD
end Go.Proofs.YboneseleGreatFmt
