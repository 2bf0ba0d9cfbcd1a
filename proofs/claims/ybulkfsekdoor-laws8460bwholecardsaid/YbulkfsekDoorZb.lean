import Derived.Test.YbulkfsekDoorWf
import Derived.Test.YbulkfsekDoorTie
import Derived.Test.YbulkfsekDoorCards
import Derived.ProofKit
import Derived.LaidMore
import Derived.OpenShut
import Derived.Stop.Joined
import Derived.OpenVars
import Derived.SevenTiedAt
import Derived.Deep.Slices
/-
  THE ROW OF 'LawS8460BWhole' OVER THE WALK, AND THE TIED CARD.
-/
namespace Go.Proofs.YbulkfsekDoor
open Go.ChangeShapes Go.WideShapes Go.ChangeAt Go.RowKit

theorem own : ownKnob Ybad.prog.godebug = none := by kernel_rfl
theorem cells28 : Ybad.prog.cellsOf 28 = 3 := by kernel_rfl
theorem cells5 : Ybad.prog.cellsOf 5 = 1 := by kernel_rfl
theorem laidOut : laidOutB Ybad.prog = true := by kernel_rfl

theorem u8_nat {x : Int} (h : (Lit.int .u8 x).wf = true) : ∃ n : Nat, x = (n : Int) ∧ n < 256 := by
  have b := bounds_u8 h
  obtain ⟨n, rfl⟩ := Int.eq_ofNat_of_zero_le b.1
  exact ⟨n, rfl, by omega⟩

/-- the argument opened: each step's three cells -/
theorem open_steps {H : Type} {enc : TypeId × Value → H} {W : World} {a : Option Addr} {len cap : Nat} {d : DataW H} {p : List MemPlace} (h : DataW.Trod enc Ybad.prog W 0 (fun _ => true) true 25 (.slice a len cap) d p) :
    len ≤ maxLen ∧ ∃ (sb so : Nat) (f : Nat → Nat × Nat × Nat), (0 < len → a = some ⟨sb, so, none⟩ ∧ sb < W.heap.size) ∧ ∀ i, i < len → (W.cell? ⟨sb, so + i * 3, none⟩ = some (.int .u8 ((f i).1 : Int)) ∧ W.cell? ⟨sb, so + i * 3 + 1, none⟩ = some (.int .u8 ((f i).2.1 : Int)) ∧ W.cell? ⟨sb, so + i * 3 + 2, none⟩ = some (.int .u8 ((f i).2.2 : Int))) ∧ (f i).1 < 256 ∧ (f i).2.1 < 256 ∧ (f i).2.2 < 256 := by
  obtain ⟨fuel, hf⟩ := h
  rcases Go.Deep.open_slice Ybad.underlying25 hf with ⟨hcs, _⟩ | ⟨b, len', cap', m, n, D, Pl, hcs, _, hl, hm, hmm, _, hcell⟩
  · simp [Value.cells] at hcs
    obtain ⟨rfl, rfl, rfl⟩ := hcs
    exact ⟨Nat.zero_le _, 0, 0, fun _ => (0, 0, 0), fun h => absurd h (Nat.lt_irrefl 0), fun i h => absurd h (Nat.not_lt_zero i)⟩
  · simp [Value.cells] at hcs
    obtain ⟨rfl, rfl, rfl⟩ := hcs
    have hlm : len ≤ m := by rw [hmm]; simp; exact hl
    have each : ∀ i, i < len → ∃ q : Nat × Nat × Nat, (W.cell? (b.add (i * 3)) = some (.int .u8 (q.1 : Int)) ∧ W.cell? (b.add (i * 3 + 1)) = some (.int .u8 (q.2.1 : Int)) ∧ W.cell? (b.add (i * 3 + 2)) = some (.int .u8 (q.2.2 : Int))) ∧ q.1 < 256 ∧ q.2.1 < 256 ∧ q.2.2 < 256 := by
      intro i hi
      obtain ⟨cs', h1, h2⟩ := hcell i (by omega)
      rw [cells28] at h1
      obtain ⟨_, hlen, hc⟩ := World.cells?_some h1
      obtain ⟨xs, k, _, _, _, hxl, hfd⟩ := DataW.trod_struct Ybad.underlying28 h2
      match cs', hlen, xs, hxl, hfd with
      | [v0, v1, v2], _, [y0, y1, y2], _, hfd =>
          have g0 : DataW.trod enc Ybad.prog W 0 (fun _ => true) true k 5 [v0] = some y0 := by
            have := hfd 0 _ rfl
            simpa [cells5] using this
          have g1 : DataW.trod enc Ybad.prog W 0 (fun _ => true) true k 5 [v1] = some y1 := by
            have := hfd 1 _ rfl
            simpa [cells5] using this
          have g2 : DataW.trod enc Ybad.prog W 0 (fun _ => true) true k 5 [v2] = some y2 := by
            have := hfd 2 _ rfl
            simpa [cells5] using this
          obtain ⟨x0, e0, _, w0⟩ := DataW.trod_int Ybad.underlying5 g0
          obtain ⟨x1, e1, _, w1⟩ := DataW.trod_int Ybad.underlying5 g1
          obtain ⟨x2, e2, _, w2⟩ := DataW.trod_int Ybad.underlying5 g2
          injection e0 with e0; injection e1 with e1; injection e2 with e2
          subst e0 e1 e2
          obtain ⟨n0, rfl, l0⟩ := u8_nat w0
          obtain ⟨n1, rfl, l1⟩ := u8_nat w1
          obtain ⟨n2, rfl, l2⟩ := u8_nat w2
          have c0 := hc 0 (by omega)
          have c1 := hc 1 (by omega)
          have c2 := hc 2 (by omega)
          rw [Go.Deep.add_add] at c0 c1 c2
          exact ⟨(n0, n1, n2), ⟨c0, c1, c2⟩, l0, l1, l2⟩
    refine ⟨Nat.le_trans hl hm, ?_⟩
    by_cases hz : len = 0
    · exact ⟨0, 0, fun _ => (0, 0, 0), fun h => absurd h (by omega), fun i h => absurd h (by omega)⟩
    · obtain ⟨q, hq⟩ := Go.Deep.choose_lt each
      obtain ⟨bb, bo, bs⟩ := b
      have h0 := (hq 0 (by omega)).1.1
      have hbs : bs = none := by
        cases bs with
        | none => rfl
        | some s => simp [World.cell?, Addr.add] at h0; split at h0 <;> cases h0
      subst hbs
      refine ⟨bb, bo, q, fun _ => ⟨rfl, ?_⟩, fun i hi => ?_⟩
      · have := World.block_lt_of_cell? _ _ h0
        rw [Addr.add_lit] at this
        exact this
      · have := hq i hi
        rw [Addr.add_lit, Addr.add_lit, Addr.add_lit] at this
        exact this

abbrev laidB : List (String × DataW Unit) := Rows.lawS8460BWholeRow.laid
/-- the door's own heap meets the condition -/
theorem door_met (os : Os) (args : Array Value) : laidMetH Ybad.prog laidB ((World.doorLaid Ybad.prog 400 os).forCall (fun _ _ => 0) ⟨#[], args, []⟩).memory :=
  laidMetH_of_parts3 (fuel := 8) (laidMet_of_run' 8 (by kernel_rfl) (by kernel_rfl)) (by kernel_rfl) (by kernel_rfl)

theorem fn_at {H : Type} (d g : DataW H) : Rows.lawS8460BWholeSpec.fn H ([d] ++ [g]) = { results := [.lit (.bool true)], args := [d], vars := [g] } := rfl

set_option maxRecDepth 100000 in
theorem liftedB (os : Os) (started : os.Started) (H : Type) (enc : TypeId × Value → H) :
    ReturnsInHanded {} Ybad.checked os 4 .any (fun w args => (Rows.lawS8460BWholeSpec.pre enc Ybad.prog Ybad.f4 [] false w args ∧ laidMetH Ybad.prog laidB w) ∧ sizedMet enc Ybad.prog Ybad.f4 (OpenSpec.ofChange Rows.lawS8460BWholeSpec) false w args)
      (Rows.lawS8460BWholeSpec.post enc Ybad.prog Ybad.f4 false true false false) := by
  refine returnsInHanded_of_change_and (C := Ybad.checked) (X := fun w _ => laidMetH Ybad.prog laidB w) (fun _ _ _ hh h => h.of_heap hh) own started (by kernel_rfl) Ybad.func4
    (ChangeSpec.witness_shaped (enc := enc) (C := Ybad.checked) (os := os) (X := fun w _ => laidMetH Ybad.prog laidB w) false (World.doorLaid Ybad.prog 400 os) #[.slice none 0 0] 8 rfl (World.shaped_of_RefB (by kernel_rfl) (by kernel_rfl)) (by kernel_rfl) (by kernel_rfl) (by kernel_rfl) (door_met os _)) ?_
  intro W base args ds gs before hval0 hW _ _ hL _
  have hval : ∀ (j : Nat) t v, Ybad.f4.params[j]? = some t → args[j]? = some v → Value.okWide Ybad.prog W .any base t v := hval0
  have hW' := hW
  obtain ⟨p, q, hA0, hV0, rfl, hfz, hnd⟩ := hW
  have hA : DataW.TrodAll enc Ybad.prog W 0 (fun _ => true) true Ybad.f4.params.toList args.toList ds p := hA0
  have hV : DataW.TrodVars enc Ybad.prog W (fun _ => true) Rows.lawS8460BWholeSpec.vars gs q := hV0
  rw [Ybad.params4] at hA hval
  obtain ⟨v0, d0, rfl, rfl, h0⟩ := trodAll_one hA
  obtain ⟨a0, len, cap, rfl⟩ := okWide_slice Ybad.underlying25 (hval 0 25 v0 rfl rfl)
  obtain ⟨g, rfl⟩ : ∃ g, gs = [g] := by
    match gs, hV with
    | [g], _ => exact ⟨g, rfl⟩
    | [], hV => exact (show False from hV).elim
    | _ :: _ :: _, hV =>
      obtain ⟨_, _, _, _, _, _, _, _, _, _, h, _⟩ := hV
      exact (show False from h).elim
  obtain ⟨hlen, sb, so, f, hsa, hst⟩ := open_steps h0
  clear hA0 hV0 hval0
  have hplt : ∀ x ∈ p, x.block < W.heap.size := hA.lt
  refine (law_b W a0 sb so len cap (fun i => (f i).1) (fun i => (f i).2.1) (fun i => (f i).2.2) (fun h => (hsa h).1) (fun h => (hsa h).2) (fun i hi => (hst i hi).2) (fun i hi => (hst i hi).1) (by unfold maxLen at hlen; omega)).mono fun e W' ⟨he, hb⟩ => ?_
  subst he
  refine ⟨_, rfl, _, _, _, [], p, q, hW', ?_, ?_, ?_, hb.frame _, fun h => by cases h⟩
  · rw [fn_at]; exact trodAll_mk1 (shut_bool Ybad.underlying4 true)
  · rw [fn_at]; exact trodAll_mk1 (Below.trod laidOut (by kernel_rfl) (of_decide_eq_true (by kernel_rfl)) h0 hb hplt)
  · rw [fn_at]; exact Below.trodVars laidOut hb (by kernel_rfl) hV

theorem rowB : Rows.LawS8460BWholeSaid :=
  OpenClaim.holds_of_wide 4 Ybad.f4 rfl rfl rfl rfl rfl rfl rfl ⟨rfl, rfl, rfl, rfl, rfl⟩ rfl rfl rfl rfl rfl (by kernel_rfl) Ybad.func4 (by kernel_rfl)
    (of_decide_eq_true (by kernel_rfl)) (by unfold Func.isWrapper; first | (rw [if_pos (by decide +kernel)]; kernel_rfl) | (rw [if_neg (by decide +kernel)]; exact ⟨rfl, rfl⟩))
    (fun os started H enc _ => liftedB os started H enc)

/-- the given statement -/
theorem proved : Rows.LawS8460BWholeCardSaid :=
  Claim7.holds_tied_plain_at .later [] [.sentinel] true (true, "be731412a3d64a8277e3ff172ed2d8885f122dab680016ad1245c22c29b2da61") false
    rowB (fun _ h => by cases h) (by kernel_rfl) (fun _ h => by cases h) lawS8460BWhole_row_tie rfl ⟨rfl, rfl⟩ (by kernel_rfl) rfl
    (fun f fn hf hfn => by
      obtain rfl : f = 4 := Option.some.inj ((show Ybad.prog.funcNamed Rows.lawS8460BWholeRow.func = some 4 by kernel_rfl).symm.trans hf) |>.symm
      obtain rfl : fn = Ybad.f4 := (Option.some.inj (Ybad.func4.symm.trans hfn)).symm
      exact ⟨by kernel_rfl, fun j t ht => by
        rw [Ybad.params4] at ht
        have hm : t ∈ [25] := by simpa using Array.mem_of_getElem? ht
        have hall : ([25].all fun u => !Ybad.prog.wantsStandIn u) = true := by kernel_rfl
        exact (show Ybad.prog.wantsStandIn t = false by simpa using List.all_eq_true.1 hall t hm)⟩)
    (by kernel_rfl)
end Go.Proofs.YbulkfsekDoor
