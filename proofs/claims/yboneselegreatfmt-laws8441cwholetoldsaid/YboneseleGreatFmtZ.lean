import Derived.Test.YboneseleGreatFmtWg
import Derived.Test.YboneseleGreatFmtWh
import Derived.Test.YboneseleGreatFmtCards
import Derived.Test.YboneseleGreatFmtLo
import Derived.ProofKit
import Derived.OpenShut
import Derived.Stop.JoinedAt
import Derived.Stop.Texts
import Derived.Stop.JoinedTold
import Derived.SizedLaws
import Derived.SevenToldRow
/-
  THE TOLD CARD OF 'agent.LawS8441CWhole', PROVED.
-/
namespace Go.Proofs.YboneseleGreatFmt
open Go.ChangeShapes Go.WideShapes Go.ChangeAt Go.RowKit
open Go.Extern.Stop Go.Stop Go.Extern

theorem Ybgs.own : ownKnob Ybgs.prog.godebug = none := by kernel_rfl
theorem Ybgs.cells5 : Ybgs.prog.cellsOf 5 = 1 := by kernel_rfl
theorem Ybgs.cells23 : Ybgs.prog.cellsOf 23 = 5 := by kernel_rfl

set_option maxRecDepth 100000 in
set_option maxHeartbeats 1000000 in
theorem law_big (w : World) (a1 a2 : Option Addr) (l1 c1 l2 c2 : Nat) (st : Nat → Nat) (nf bt : Bool) (hl : ¬ l1 ≤ 65536) :
   Calls Ybgs.prog 3 #[.slice a1 l1 c1, .slice a2 l2 c2, .agg #[.int .u8 (st 0 : Int), .int .u8 (st 1 : Int), .int .u8 (st 2 : Int), .int .u8 (st 3 : Int), .int .u8 (st 4 : Int)], .bool nf, .bool bt] w (LP w) := by
  have hl' : (65536 : Int) < (l1 : Int) := by omega
  go_enter Ybgs.func3, Ybgs.ntmps3
  go_wp2_with fail
  go_ret
  exact ⟨rfl, (Below.refl _ _).alloc (Nat.le_refl _) _⟩

theorem law_any (F : Interp) (w : World) (hF : F.answers w.tape) (a1 a2 : Option Addr) (l1 c1 l2 c2 : Nat) (st T S : Nat → Nat) (hst : ∀ j, st j < 256) (nf bt : Bool) (hT : SlIn w a1 l1 T) (hS : SlIn w a2 l2 S) :
   Calls Ybgs.prog 3 #[.slice a1 l1 c1, .slice a2 l2 c2, .agg #[.int .u8 (st 0 : Int), .int .u8 (st 1 : Int), .int .u8 (st 2 : Int), .int .u8 (st 3 : Int), .int .u8 (st 4 : Int)], .bool nf, .bool bt] w (LP w) := by
  by_cases hl : l1 ≤ 65536
  · cases nf
    · exact law_fr F w hF a1 a2 l1 c1 l2 c2 st T S hst bt hl hT hS
    · exact law_no F w hF a1 a2 l1 c1 l2 c2 st T S hst bt hl hT hS
  · exact law_big w a1 a2 l1 c1 l2 c2 st nf bt hl

theorem sl_in {H : Type} {enc : TypeId × Value → H} {W : World} {a0 : Option Addr} {len cap : Nat} {d : DataW H} {p : List MemPlace} (h : DataW.Trod enc Ybgs.prog W 0 (fun _ => true) true 22 (.slice a0 len cap) d p) : ∃ f, SlIn W a0 len f := by
  obtain ⟨fuel, hf⟩ := h
  rcases open_ints Ybgs.underlying22 Ybgs.underlying5 Ybgs.cells5 hf with ⟨hcs, hx⟩ | ⟨a, len', cap', zs, hcs, _, hl, hm, hz, hx, hcell, hwz⟩
  · simp [Value.cells] at hcs
    exact ⟨fun _ => 0, fun _ => Nat.zero_lt_succ 255, fun _ _ => rfl, Or.inl hcs.2.1⟩
  · simp [Value.cells] at hcs
    obtain ⟨rfl, rfl, rfl⟩ := hcs
    simp only [if_true] at hz
    refine ⟨fun j => if j < len then (zs.getD j 0).toNat else 0, fun j => ?_, fun j hj => if_neg (by omega), ?_⟩
    · show (if j < len then (zs.getD j 0).toNat else 0) < 256
      have hw := range_u8 hwz j
      rw [← List.getD_eq_getElem?_getD] at hw
      split <;> omega
    · rcases Nat.eq_zero_or_pos len with h | h
      · exact Or.inl h
      · obtain ⟨cb, off, rfl, hc⟩ := ints_at hcell (by omega)
        refine Or.inr ⟨cb, off, rfl, World.block_lt_of_cell? _ _ (hc 0 (by omega)), fun i hi => ?_⟩
        have hw := range_u8 hwz i
        have hc' := hc i (by omega)
        rw [← List.getD_eq_getElem?_getD] at hw
        rw [hc']
        simp only [if_pos hi]
        rw [Int.toNat_of_nonneg hw.1]

theorem list5 (l : List Value) (h : l.length = 5) : ∃ a b c d e, l = [a, b, c, d, e] := by
  match l, h with
  | [a, b, c, d, e], _ => exact ⟨a, b, c, d, e, rfl⟩
set_option maxRecDepth 100000 in
/-- the array by value -/
theorem arr_in {H : Type} {enc : TypeId × Value → H} {W : World} {b0 : Nat} {v : Value} {d : DataW H} {p : List MemPlace} (hv : Value.okWide Ybgs.prog W .any b0 23 v) (h : DataW.Trod enc Ybgs.prog W 0 (fun _ => true) true 23 v d p) :
    ∃ st : Nat → Nat, (∀ j, st j < 256) ∧ v = .agg #[.int .u8 (st 0 : Int), .int .u8 (st 1 : Int), .int .u8 (st 2 : Int), .int .u8 (st 3 : Int), .int .u8 (st 4 : Int)] := by
  obtain ⟨cs, rfl, hsz, _⟩ : ∃ cs, v = .agg cs ∧ cs.size = Ybgs.prog.cellsOf 23 ∧ Row.okWide Ybgs.prog W .any b0 23 cs := by
    simpa [Value.okWide, Ybgs.underlying23] using hv
  rw [Ybgs.cells23] at hsz
  obtain ⟨l⟩ := cs
  obtain ⟨fuel, hf⟩ := h
  obtain ⟨xs, m, _, ex, hlen, hl, hel⟩ := DataW.trod_array Ybgs.underlying23 hf
  rw [Ybgs.cells5] at hel
  obtain ⟨a, b, c, d, e, rfl⟩ := list5 l hsz
  have k0 := hel 0 (by omega); have k1 := hel 1 (by omega); have k2 := hel 2 (by omega); have k3 := hel 3 (by omega); have k4 := hel 4 (by omega)
  rw [List.getElem?_eq_getElem (by omega)] at k0 k1 k2 k3 k4
  obtain ⟨z0, a0, _, w0⟩ := DataW.trod_int Ybgs.underlying5 k0
  obtain ⟨z1, a1, _, w1⟩ := DataW.trod_int Ybgs.underlying5 k1
  obtain ⟨z2, a2, _, w2⟩ := DataW.trod_int Ybgs.underlying5 k2
  obtain ⟨z3, a3, _, w3⟩ := DataW.trod_int Ybgs.underlying5 k3
  obtain ⟨z4, a4, _, w4⟩ := DataW.trod_int Ybgs.underlying5 k4
  simp [Value.cells] at a0 a1 a2 a3 a4
  subst a0 a1 a2 a3 a4
  have g0 := bounds_u8 w0
  have g1 := bounds_u8 w1
  have g2 := bounds_u8 w2
  have g3 := bounds_u8 w3
  have g4 := bounds_u8 w4
  obtain ⟨n0, rfl⟩ := Int.eq_ofNat_of_zero_le g0.1
  obtain ⟨n1, rfl⟩ := Int.eq_ofNat_of_zero_le g1.1
  obtain ⟨n2, rfl⟩ := Int.eq_ofNat_of_zero_le g2.1
  obtain ⟨n3, rfl⟩ := Int.eq_ofNat_of_zero_le g3.1
  obtain ⟨n4, rfl⟩ := Int.eq_ofNat_of_zero_le g4.1
  refine ⟨fun j => if j = 0 then n0 else if j = 1 then n1 else if j = 2 then n2 else if j = 3 then n3 else n4, fun j => ?_, rfl⟩
  show (if j = 0 then n0 else if j = 1 then n1 else if j = 2 then n2 else if j = 3 then n3 else n4) < 256
  (repeat' split) <;> omega

set_option maxRecDepth 100000 in
theorem lifted (os : Os) (started : os.Started) (H : Type) (enc : TypeId × Value → H) :
    ReturnsInTold none {} Ybgs.checked os 3 .any Input.okWide ((OpenSpec.ofChange Rows.lawS8441CWholeSpec).preRow enc Ybgs.prog Ybgs.f3 [] false []) (fun F => ((OpenSpec.ofChange Rows.lawS8441CWholeSpec).at F).post enc Ybgs.prog Ybgs.f3 false true false false) (aloneAtReturn Ybgs.prog) nothingAlways := by
  refine returnsInTold_of_row (C := Ybgs.checked) (s := OpenSpec.ofChange Rows.lawS8441CWholeSpec) (by kernel_rfl) Ybgs.own started (by kernel_rfl) Ybgs.func3
    (OpenSpec.witness_stopped (enc := enc) (C := Ybgs.checked) false ⟨#[], #[.slice none 0 0, .slice none 0 0, .agg #[.int .u8 0, .int .u8 0, .int .u8 0, .int .u8 0, .int .u8 0], .bool false, .bool false], []⟩ 8 (by kernel_rfl) (by kernel_rfl) (by kernel_rfl) (by kernel_rfl)) ?_
  intro F W base args ds gs before _ hF hval0 hW _ _ hsz _ _
  have hval : ∀ (j : Nat) t v, Ybgs.f3.params[j]? = some t → args[j]? = some v → Value.okWide Ybgs.prog W .any base t v := hval0
  have hW' := hW
  obtain ⟨p, q, hA0, hV, rfl, _, _⟩ := hW
  have hA : DataW.TrodAll enc Ybgs.prog W 0 (fun _ => true) true Ybgs.f3.params.toList args.toList ds p := hA0
  rw [Ybgs.params3] at hA hval
  obtain ⟨v0, vs0, d0, ds0, p0, q0, ea, rfl, rfl, h0, hA⟩ := trodAll_cons hA
  obtain ⟨v1, vs1, d1, ds1, p1, q1, rfl, rfl, rfl, h1, hA⟩ := trodAll_cons hA
  obtain ⟨v2, vs2, d2, ds2, p2, q2, rfl, rfl, rfl, h2, hA⟩ := trodAll_cons hA
  obtain ⟨v3, vs3, d3, ds3, p3, q3, rfl, rfl, rfl, h3, hA⟩ := trodAll_cons hA
  obtain ⟨v4, vs4, d4, ds4, p4, q4, rfl, rfl, rfl, h4, hA⟩ := trodAll_cons hA
  obtain ⟨rfl, rfl, rfl⟩ := trodAll_nil hA
  obtain rfl : args = #[v0, v1, v2, v3, v4] := by cases args; simp_all
  clear ea
  obtain ⟨rfl, rfl⟩ := trodVars_none hV
  obtain ⟨a0, l0, c0, rfl⟩ := okWide_slice Ybgs.underlying22 (hval 0 22 v0 rfl rfl)
  obtain ⟨a1, l1, c1, rfl⟩ := okWide_slice Ybgs.underlying22 (hval 1 22 v1 rfl rfl)
  obtain ⟨st, hst, rfl⟩ := arr_in (hval 2 23 v2 rfl rfl) h2
  obtain ⟨b3, rfl, rfl, rfl⟩ := open_bool Ybgs.underlying4 (hval 3 4 v3 rfl rfl) h3
  obtain ⟨b4, rfl, rfl, rfl⟩ := open_bool Ybgs.underlying4 (hval 4 4 v4 rfl rfl) h4
  obtain ⟨T, hT⟩ := sl_in h0
  obtain ⟨S, hS⟩ := sl_in h1
  clear hA0 hval0
  simp only [List.append_nil] at hW'
  have hlt : ∀ x ∈ p0 ++ (p1 ++ p2), x.block < W.heap.size := fun x hx => by simpa using hW'.lt x (by simpa using hx)
  have k0 : ∀ (W' : World), Below W.heap.size W W' → DataW.Trod enc Ybgs.prog W' 0 (fun b => decide (b < W.heap.size)) true 22 (.slice a0 l0 c0) d0 p0 :=
    fun W' hn => Below.trod Ybgs.laidOut (by kernel_rfl) (of_decide_eq_true (by kernel_rfl)) h0 hn (fun x hx => hlt x (by simp [hx]))
  have k1 : ∀ (W' : World), Below W.heap.size W W' → DataW.Trod enc Ybgs.prog W' 0 (fun b => decide (b < W.heap.size)) true 22 (.slice a1 l1 c1) d1 p1 :=
    fun W' hn => Below.trod Ybgs.laidOut (by kernel_rfl) (of_decide_eq_true (by kernel_rfl)) h1 hn (fun x hx => hlt x (by simp [hx]))
  have k2 : ∀ (W' : World), Below W.heap.size W W' → DataW.Trod enc Ybgs.prog W' 0 (fun b => decide (b < W.heap.size)) true 23 _ d2 p2 :=
    fun W' hn => Below.trod Ybgs.laidOut (by kernel_rfl) (of_decide_eq_true (by kernel_rfl)) h2 hn (fun x hx => hlt x (by simp [hx]))
  refine (law_any F.told W hF a0 a1 l0 c0 l1 c1 st T S hst b3 b4 hT hS).mono fun e W' ⟨he, hnx⟩ => ?_
  subst he
  refine ⟨_, rfl, _, _, _, [], p0 ++ (p1 ++ p2), [], hW', ?_, ?_, rfl, hnx.frame _, fun h => by cases h⟩
  · exact trodAll_mk1 (shut_bool Ybgs.underlying4 _)
  · have := trodAll_cons_mk (k0 _ hnx) (trodAll_cons_mk (k1 _ hnx) (trodAll_cons_mk (k2 _ hnx) (trodAll_mk2 (shut_bool (w := W') Ybgs.underlying4 b3) (shut_bool (w := W') Ybgs.underlying4 b4))))
    simp only [List.append_nil] at this
    exact this

theorem Ybgs.stops : Ybgs.pinned.checked.prog.stops = ["fmt.Sprintf"] := by kernel_rfl
theorem Ybgs.stopKnobs : Ybgs.pinned.checked.prog.stopKnobs = [] := by kernel_rfl
theorem Ybgs.quiet (os : Os) : Stop.quiet Ybgs.pinned.checked.prog os := by
  intro k hk
  rw [Ybgs.stopKnobs] at hk
  cases hk

/-- THE STATEMENT -/
theorem proved : Rows.LawS8441CWholeToldSaid :=
  Claim7.holds_of_told_any 3 Ybgs.f3 "fmt.Sprintf" [] [] _ _ _ (by kernel_rfl) rfl rfl rfl Ybgs.laidOut (by kernel_rfl) rfl ⟨rfl, rfl, rfl, rfl, rfl, rfl, rfl⟩ rfl rfl (by kernel_rfl) (by kernel_rfl) Ybgs.func3 (by kernel_rfl)
    (of_decide_eq_true (by kernel_rfl)) (of_decide_eq_true (by kernel_rfl)) Ybgs.stops.symm rfl Ybgs.stopKnobs.symm (by kernel_rfl)
    (by kernel_rfl) (by kernel_rfl) (by kernel_rfl) (by kernel_rfl) (by kernel_rfl) (by kernel_rfl) (by kernel_rfl) (by kernel_rfl) (by kernel_rfl) rfl (by kernel_rfl) rfl rfl
    rfl rfl
    rfl (by kernel_rfl) (by kernel_rfl) (by kernel_rfl) (by decide) (by kernel_rfl)
    (OpenClaim.moreEntering_of (by kernel_rfl) (by kernel_rfl) (by kernel_rfl) (by kernel_rfl) (by kernel_rfl) (by kernel_rfl) (by kernel_rfl) (by kernel_rfl) (by kernel_rfl) (by kernel_rfl))
    ⟨_, WideRow.started_initial, Ybgs.quiet _⟩
    (fun os started _ H enc _ => lifted os started H enc)

#print axioms proved

end Go.Proofs.YboneseleGreatFmt
