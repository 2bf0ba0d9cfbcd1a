import Derived.Test.YboneseleGreatFmtWe
/-
  THE TWO STORES INTO THE MAPS, AND WHAT IS KNOWN OF MEMORY WHILE THE MAPS ARE FILLED.
-/
namespace Go.Proofs.YboneseleGreatFmt
open Go.RowKit Go.WideMaps Go.Maps

/-- S with one name more, if b says so -/
def putS (b : Bool) (nm : List UInt8) (S : List UInt8 → Bool) : List UInt8 → Bool := fun x => (b && x == nm) || S x

theorem ClsAt.mono {w : World} {b n m : Nat} {S : List UInt8 → Bool} (h : ClsAt w b n S) (hm : n ≤ m) : ClsAt w b m S := by
  obtain ⟨D, ho, hS⟩ := h
  exact ⟨D, ho.mono hm, hS⟩
theorem NegAt.mono {w : World} {b n m : Nat} {S : List UInt8 → Bool} (h : NegAt w b n S) (hm : n ≤ m) : NegAt w b m S := by
  obtain ⟨D, ho, hS⟩ := h
  exact ⟨D, ho.mono hm, hS⟩
theorem ClsAt.kept {w w' : World} {b n : Nat} {S : List UInt8 → Bool} {row : Option Nat} (h : ClsAt w b n S) (hg : w.grownBy w' row) (hne : some b ≠ row) : ClsAt w' b n S := by
  obtain ⟨D, ho, hS⟩ := h
  exact ⟨D, ho.kept hg hne, hS⟩
theorem NegAt.kept {w w' : World} {b n : Nat} {S : List UInt8 → Bool} {row : Option Nat} (h : NegAt w b n S) (hg : w.grownBy w' row) (hne : some b ≠ row) : NegAt w' b n S := by
  obtain ⟨D, ho, hS⟩ := h
  exact ⟨D, ho.kept hg hne, hS⟩

theorem keylit (nm : List UInt8) : WideAt.IsKeyLit (.string nm) := by trivial

theorem wpList_cls_put (w : World) {ops : Array Oper} {rest : List Oper} {o : Oper} {a : Act} {Q : Exit → Act → World → Prop} (hg : o.guard = none) (m x v : Operand) (hop : o.op = Op.mapUpdate 27 m x v)
    (b n : Nat) (S : List UInt8 → Bool) (nm : List UInt8) (hm : a.eval m = .map (some b)) (hx : a.eval x = .string (mk nm)) (hv : a.eval v = .string ⟨#[]⟩) (h : ClsAt w b n S) (hn : n < 1000) (hl : nm.length ≤ 1000)
    (hK : ∀ w', ClsAt w' b (n + 1) (putS true nm S) → w.grownBy w' (some b) → wpList Ybgs.prog ops Q rest (a.put o.dst undef) w') : wpList Ybgs.prog ops Q (o :: rest) a w := by
  obtain ⟨D, ho, hS⟩ := h
  refine wpList_mapUpdate_own w hg m x v 27 hop 9 24 law9 Ybgs.underlying27 _ b n D hm ho (by unfold maxLen; omega) _ _ _ hx hv (key9 nm hl) _ [] (plainElem_string (s := ⟨#[]⟩) Ybgs.underlying24 (by decide)) ?_
  intro w' ho' hg'
  refine hK w' ⟨_, ho', fun y => ?_⟩ hg'
  unfold putS
  by_cases hy : y = nm
  · subst hy
    rw [has_put_same ho.isMap (keylit y)]; simp
  · rw [has_put_other (by intro e; injection e with e; exact hy e), hS y]; simp [hy]
theorem wpList_neg_put (w : World) {ops : Array Oper} {rest : List Oper} {o : Oper} {a : Act} {Q : Exit → Act → World → Prop} (hg : o.guard = none) (m x v : Operand) (hop : o.op = Op.mapUpdate 28 m x v)
    (b n : Nat) (S : List UInt8 → Bool) (nm : List UInt8) (hm : a.eval m = .map (some b)) (hx : a.eval x = .string (mk nm)) (hv : a.eval v = .bool true) (h : NegAt w b n S) (hn : n < 1000) (hl : nm.length ≤ 1000)
    (hK : ∀ w', NegAt w' b (n + 1) (putS true nm S) → w.grownBy w' (some b) → wpList Ybgs.prog ops Q rest (a.put o.dst undef) w') : wpList Ybgs.prog ops Q (o :: rest) a w := by
  obtain ⟨D, ho, hS⟩ := h
  refine wpList_mapUpdate_own w hg m x v 28 hop 9 4 law9 Ybgs.underlying28 _ b n D hm ho (by unfold maxLen; omega) _ _ _ hx hv (key9 nm hl) _ [] (plainElem_bool Ybgs.underlying4 true) ?_
  intro w' ho' hg'
  refine hK w' ⟨_, ho', fun y => ?_⟩ hg'
  unfold putS
  by_cases hy : y = nm
  · subst hy
    rw [atKey_put_same ho.isMap (keylit y)]; simp
  · rw [atKey_put_other (by intro e; injection e with e; exact hy e), hS y]; simp [hy]

/-- memory while the maps are filled: B: the block of the states; fr: is there a frame? -/
structure MS (B : Nat) (st : Nat → Nat) (fr : Bool) (w : World) (nc nn nf : Nat) (Sc Sn Sf : List UInt8 → Bool) (wr : World) : Prop where
  below : Below B w wr
  size : B + (if fr then 6 else 4) ≤ wr.heap.size
  sts : ∀ j, j < 5 → wr.cell? ⟨B, j, none⟩ = some (.int .u8 (st j : Int))
  r5 : wr.cell? ⟨B + 3, 12, none⟩ = some (.map (some (B + 1)))
  r6 : wr.cell? ⟨B + 3, 13, none⟩ = some (.map (some (B + 2)))
  f3 : fr = true → wr.cell? ⟨B + 5, 3, none⟩ = some (.map (some (B + 4)))
  mc : ClsAt wr (B + 1) nc Sc
  mn : NegAt wr (B + 2) nn Sn
  mf : fr = true → ClsAt wr (B + 4) nf Sf

theorem MS.go {B : Nat} {st : Nat → Nat} {fr : Bool} {w : World} {nc nn nf : Nat} {Sc Sn Sf : List UInt8 → Bool} {wr w' : World} (h : MS B st fr w nc nn nf Sc Sn Sf wr) {b : Nat} (hg : wr.grownBy w' (some b)) (hb : b = B + 1 ∨ b = B + 2 ∨ b = B + 4) :
    Below B w w' ∧ B + (if fr then 6 else 4) ≤ w'.heap.size ∧ (∀ j, j < 5 → w'.cell? ⟨B, j, none⟩ = some (.int .u8 (st j : Int))) ∧ w'.cell? ⟨B + 3, 12, none⟩ = some (.map (some (B + 1))) ∧ w'.cell? ⟨B + 3, 13, none⟩ = some (.map (some (B + 2))) ∧
      (fr = true → w'.cell? ⟨B + 5, 3, none⟩ = some (.map (some (B + 4)))) := by
  have cl : ∀ {p : Addr} {v : Value}, wr.cell? p = some v → p.block ≠ b → w'.cell? p = some v := fun {p v} hp hne => by
    rw [World.cell?_of_block (w := wr) (hg.block p.block (World.block_lt_of_cell? _ _ hp) (by intro e; injection e with e; exact hne e))]; exact hp
  have hs := h.size
  have hs2 := hg.size
  exact ⟨h.below.grown hg (by omega) (fun k hk => by injection hk with hk; omega), by omega, fun j hj => cl (h.sts j hj) (by show B ≠ b; omega), cl h.r5 (by show B + 3 ≠ b; omega), cl h.r6 (by show B + 3 ≠ b; omega), fun hf => cl (h.f3 hf) (by show B + 5 ≠ b; omega)⟩

section
variable {B : Nat} {st : Nat → Nat} {fr : Bool} {w : World} {nc nn nf : Nat} {Sc Sn Sf : List UInt8 → Bool} {wr w' : World}
theorem MS.putc (h : MS B st fr w nc nn nf Sc Sn Sf wr) {nm : List UInt8} (hc : ClsAt w' (B + 1) (nc + 1) (putS true nm Sc)) (hg : wr.grownBy w' (some (B + 1))) : MS B st fr w (nc + 1) nn nf (putS true nm Sc) Sn Sf w' := by
  obtain ⟨a, b, c, d, e, f⟩ := h.go hg (Or.inl rfl)
  exact ⟨a, b, c, d, e, f, hc, h.mn.kept hg (by simp), fun hf => (h.mf hf).kept hg (by simp)⟩
theorem MS.putn (h : MS B st fr w nc nn nf Sc Sn Sf wr) {nm : List UInt8} (hc : NegAt w' (B + 2) (nn + 1) (putS true nm Sn)) (hg : wr.grownBy w' (some (B + 2))) : MS B st fr w nc (nn + 1) nf Sc (putS true nm Sn) Sf w' := by
  obtain ⟨a, b, c, d, e, f⟩ := h.go hg (Or.inr (Or.inl rfl))
  exact ⟨a, b, c, d, e, f, h.mc.kept hg (by simp), hc, fun hf => (h.mf hf).kept hg (by simp)⟩
theorem MS.putf (h : MS B st fr w nc nn nf Sc Sn Sf wr) {nm : List UInt8} (hc : ClsAt w' (B + 4) (nf + 1) (putS true nm Sf)) (hg : wr.grownBy w' (some (B + 4))) : MS B st fr w nc nn (nf + 1) Sc Sn (putS true nm Sf) w' := by
  obtain ⟨a, b, c, d, e, f⟩ := h.go hg (Or.inr (Or.inr rfl))
  exact ⟨a, b, c, d, e, f, h.mc.kept hg (by simp), h.mn.kept hg (by simp), fun _ => hc⟩
theorem MS.mono (h : MS B st fr w nc nn nf Sc Sn Sf wr) {a b c : Nat} (ha : nc ≤ a) (hb : nn ≤ b) (hc : nf ≤ c) : MS B st fr w a b c Sc Sn Sf wr :=
  ⟨h.below, h.size, h.sts, h.r5, h.r6, h.f3, h.mc.mono ha, h.mn.mono hb, fun hf => (h.mf hf).mono hc⟩
end

/-- the names j < k whose state bears the bit q -/
def setTo (st : Nat → Nat) (q k : Nat) : List UInt8 → Bool := fun nm => (List.range k).any fun j => nm == Pl.nmC j && st j / 2 ^ q % 2 == 1
theorem setTo_zero (st : Nat → Nat) (q : Nat) : setTo st q 0 = fun _ => false := rfl
theorem setTo_succ (st : Nat → Nat) (q k : Nat) : setTo st q (k + 1) = putS (st k / 2 ^ q % 2 == 1) (Pl.nmC k) (setTo st q k) := by
  funext nm
  unfold setTo putS
  rw [List.range_succ, List.any_append]
  simp only [List.any_cons, List.any_nil, Bool.or_false]
  rw [Bool.or_comm, Bool.and_comm]
theorem putS_false (nm : List UInt8) (S : List UInt8 → Bool) : putS false nm S = S := by
  funext x; simp [putS]
theorem setTo_at (st : Nat → Nat) (q j : Nat) (h : j < 5) : setTo st q 5 (Pl.nmC j) = (st j / 2 ^ q % 2 == 1) := by
  unfold setTo
  have e : List.range 5 = [0, 1, 2, 3, 4] := rfl
  rw [e]
  simp only [List.any_cons, List.any_nil, Bool.or_false]
  match j, h with
  | 0, _ => simp [Pl.nmC]
  | 1, _ => simp [Pl.nmC]
  | 2, _ => simp [Pl.nmC]
  | 3, _ => simp [Pl.nmC]
  | 4, _ => simp [Pl.nmC]
theorem nmC_len (k : Nat) : (Pl.nmC k).length ≤ 1000 := by
  unfold Pl.nmC
  (repeat' split) <;> decide
theorem strip_full (t : Nat) : strip (Pl.full t) = Pl.nmC (t % 5) := by
  unfold Pl.full
  split
  · unfold strip
    rw [if_pos (by rw [List.take_append_of_le_length (by decide)]; rfl)]
    rw [show 8 = Pl.pre.length from rfl, List.drop_left]
  · unfold strip Pl.nmC
    (repeat' split) <;> first | rfl | (rename_i h; revert h; decide)
end Go.Proofs.YboneseleGreatFmt
