import Derived.Test.YbulkfrueFmtWj
import Derived.Test.YbulkfrueFmtCards
import Derived.ProofKit
import Derived.OpenShut
import Derived.Stop.JoinedAt
import Derived.Stop.Texts
import Derived.Stop.JoinedTold
import Derived.SizedLaws
import Derived.SevenToldRow
/-
  THE TOLD CARD OF 'policy.LawS8441BWhole', PROVED.
-/
namespace Go.Proofs.YbulkfrueFmt
open Go.ChangeShapes Go.WideShapes Go.ChangeAt Go.RowKit
open Go.Extern.Stop Go.Stop Go.Extern

theorem Ybaf.own : ownKnob Ybaf.prog.godebug = none := by kernel_rfl
theorem Ybaf.laidOut : laidOutB Ybaf.prog = true := by kernel_rfl
theorem Ybaf.cells5 : Ybaf.prog.cellsOf 5 = 1 := by kernel_rfl

/-- the law, whatever the bytes, whatever the two numbers -/
theorem law_any (F : Interp) (w : World) (hF : F.answers w.tape) (ao : Option Addr) (len cap dv tl : Nat) (hdv : dv < 256) (htl : tl < 256) (hC : CodeIn w (w.heap.size + 1) ao len) :
    Calls Ybaf.prog 3 #[.slice ao len cap, .int .u8 (dv : Int), .int .u8 (tl : Int)] w (LP w) := by
  by_cases hl : len ≤ 1048576
  · rcases (show tl % 3 = 0 ∨ tl % 3 = 1 ∨ tl % 3 = 2 by omega) with h | h | h
    · exact law_0 w ao len cap dv tl hl hdv htl hC h
    · exact law_1 F w hF ao len cap dv tl hl hdv htl hC h
    · exact law_2 F w hF ao len cap dv tl hl hdv htl hC h
  · exact law_big w ao len cap dv tl hl

set_option maxRecDepth 100000 in
theorem lifted (os : Os) (started : os.Started) (H : Type) (enc : TypeId × Value → H) :
    ReturnsInTold none {} Ybaf.checked os 3 .any Input.okWide ((OpenSpec.ofChange Rows.lawS8441BWholeSpec).preRow enc Ybaf.prog Ybaf.f3 [] false []) (fun F => ((OpenSpec.ofChange Rows.lawS8441BWholeSpec).at F).post enc Ybaf.prog Ybaf.f3 false true false false) (aloneAtReturn Ybaf.prog) nothingAlways := by
  refine returnsInTold_of_row (C := Ybaf.checked) (s := OpenSpec.ofChange Rows.lawS8441BWholeSpec) (by kernel_rfl) Ybaf.own started (by kernel_rfl) Ybaf.func3
    (OpenSpec.witness_stopped (enc := enc) (C := Ybaf.checked) false ⟨#[], #[.slice none 0 0, .int .u8 0, .int .u8 0], []⟩ 8 (by kernel_rfl) (by kernel_rfl) (by kernel_rfl) (by kernel_rfl)) ?_
  intro F W base args ds gs before _ hF hval0 hW _ _ hsz _ _
  have hval : ∀ (j : Nat) t v, Ybaf.f3.params[j]? = some t → args[j]? = some v → Value.okWide Ybaf.prog W .any base t v := hval0
  have hW' := hW
  obtain ⟨p, q, hA0, hV, rfl, _, _⟩ := hW
  have hA : DataW.TrodAll enc Ybaf.prog W 0 (fun _ => true) true Ybaf.f3.params.toList args.toList ds p := hA0
  rw [Ybaf.params3] at hA hval
  obtain ⟨v0, v1, v2, d0, d1, d2, p0, p1, p2, rfl, rfl, rfl, h0, h1, h2⟩ := trodAll_three hA
  obtain ⟨rfl, rfl⟩ := trodVars_none hV
  obtain ⟨a0, len, cap, rfl⟩ := okWide_slice Ybaf.underlying22 (hval 0 22 v0 rfl rfl)
  obtain ⟨dv, rfl, rfl, rfl, wdv⟩ := open_int Ybaf.underlying5 (hval 1 5 v1 rfl rfl) h1
  obtain ⟨tl, rfl, rfl, rfl, wtl⟩ := open_int Ybaf.underlying5 (hval 2 5 v2 rfl rfl) h2
  have h0k := h0
  obtain ⟨fuel, hf⟩ := h0
  clear hA0 hval0
  simp only [List.append_nil] at hW'
  have hlt : ∀ x ∈ p0, x.block < W.heap.size := fun x hx => by simpa using hW'.lt x (by simpa using hx)
  have hargs : ∀ (W' : World), Below W.heap.size W W' → DataW.Trod enc Ybaf.prog W' 0 (fun b => decide (b < W.heap.size)) true 22 (.slice a0 len cap) d0 p0 :=
    fun W' hn => Below.trod Ybaf.laidOut (by kernel_rfl) (of_decide_eq_true (by kernel_rfl)) h0k hn hlt
  have bdv := bounds_u8 wdv
  have btl := bounds_u8 wtl
  obtain ⟨dn, rfl⟩ := Int.eq_ofNat_of_zero_le bdv.1
  obtain ⟨tn, rfl⟩ := Int.eq_ofNat_of_zero_le btl.1
  have hC : CodeIn W (W.heap.size + 1) a0 len := by
    rcases open_ints Ybaf.underlying22 Ybaf.underlying5 Ybaf.cells5 hf with ⟨hcs, hx⟩ | ⟨a, len', cap', zs, hcs, _, hl, hm, hz, hx, hcell, hwz⟩
    · simp [Value.cells] at hcs
      exact Or.inl hcs.2.1
    · simp [Value.cells] at hcs
      obtain ⟨rfl, rfl, rfl⟩ := hcs
      simp only [if_true] at hz
      rcases Nat.eq_zero_or_pos len with h | h
      · exact Or.inl h
      · obtain ⟨cb, off, rfl, hc⟩ := ints_at hcell (by omega)
        refine Or.inr ⟨cb, off, rfl, ?_, ?_, fun i hi => ?_⟩
        · have := World.block_lt_of_cell? _ _ (hc 0 (by omega)); show cb ≠ _; simp at this; omega
        · exact World.block_lt_of_cell? _ _ (hc 0 (by omega))
        · have hw := range_u8 hwz i
          have hc' := hc i (by omega)
          rw [List.getD_eq_getElem?_getD] at hc'
          obtain ⟨z, hz'⟩ := Int.eq_ofNat_of_zero_le hw.1
          rw [hz'] at hc' hw
          exact ⟨z, by omega, hc'⟩
  refine (law_any F.told W hF a0 len cap dn tn (by omega) (by omega) hC).mono fun e W' ⟨he, hnx⟩ => ?_
  subst he
  refine ⟨_, rfl, _, _, _, [], p0, [], hW', ?_, ?_, rfl, hnx.frame _, fun h => by cases h⟩
  · exact trodAll_mk1 (shut_bool Ybaf.underlying4 _)
  · have := trodAll_mk3 (hargs _ hnx) (shut_int (w := W') Ybaf.underlying5 wdv) (shut_int (w := W') Ybaf.underlying5 wtl)
    simp only [List.append_nil] at this
    exact this

theorem Ybaf.stops : Ybaf.pinned.checked.prog.stops = ["fmt.Sprintf"] := by kernel_rfl
theorem Ybaf.stopKnobs : Ybaf.pinned.checked.prog.stopKnobs = [] := by kernel_rfl
theorem Ybaf.quiet (os : Os) : Stop.quiet Ybaf.pinned.checked.prog os := by
  intro k hk
  rw [Ybaf.stopKnobs] at hk
  cases hk

/-- THE STATEMENT -/
theorem proved : Rows.LawS8441BWholeToldSaid :=
  Claim7.holds_of_told_any 3 Ybaf.f3 "fmt.Sprintf" [] [] _ _ _ (by kernel_rfl) rfl rfl rfl Ybaf.laidOut (by kernel_rfl) rfl ⟨rfl, rfl, rfl, rfl, rfl, rfl, rfl⟩ rfl rfl (by kernel_rfl) (by kernel_rfl) Ybaf.func3 (by kernel_rfl)
    (of_decide_eq_true (by kernel_rfl)) (of_decide_eq_true (by kernel_rfl)) Ybaf.stops.symm rfl Ybaf.stopKnobs.symm (by kernel_rfl)
    (by kernel_rfl) (by kernel_rfl) (by kernel_rfl) (by kernel_rfl) (by kernel_rfl) (by kernel_rfl) (by kernel_rfl) (by kernel_rfl) (by kernel_rfl) rfl (by kernel_rfl) rfl rfl
    rfl rfl
    rfl (by kernel_rfl) (by kernel_rfl) (by kernel_rfl) (by decide) (by kernel_rfl)
    (OpenClaim.moreEntering_of (by kernel_rfl) (by kernel_rfl) (by kernel_rfl) (by kernel_rfl) (by kernel_rfl) (by kernel_rfl) (by kernel_rfl) (by kernel_rfl) (by kernel_rfl) (by kernel_rfl))
    ⟨_, WideRow.started_initial, Ybaf.quiet _⟩
    (fun os started _ H enc _ => lifted os started H enc)

#print axioms proved

end Go.Proofs.YbulkfrueFmt
