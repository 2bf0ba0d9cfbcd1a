import Derived.Test.YboneseleGreatFmtWg0
import Derived.Lib.AppendStr
import Derived.Laws.IdiomStrings
/-
  THE BYTES THAT ARE APPENDED TO: 'Buf'.
-/
namespace Go.Proofs.YboneseleGreatFmt
open Go.RowKit

theorem Ybgs.info5 : (Ybgs.prog.info? 5).map (fun i => (i.zero, i.size, i.bytes)) = some (some (.int .u8 0), 1, 1) := by kernel_rfl
def cellsB (l : List UInt8) : List Value := l.map fun b => Value.int .u8 (b.toNat : Int)

/-- slice v holds the bytes l, in a row of one's own; of what was there in w0 nothing has turned -/
structure Buf (w0 : World) (v : Value) (l : List UInt8) (wr : World) : Prop where
  own : wr.ownsRow w0.heap.size 5 1 v l.length (cellsB l)
  below : Below w0.heap.size w0 wr

theorem Buf.start (w0 : World) : Buf w0 (.slice none 0 0) [] w0 := ⟨World.ownsRow_nil _ _ _ _, Below.refl _ _⟩

theorem wpList_buf_byte (wr : World) {ops : Array Oper} {rest : List Oper} {o : Oper} {a : Act} {Q : Exit → Act → World → Prop} (hgd : o.guard = none) (s x : Operand)
    (ho : o.op = .call { callee := .builtin .append, args := #[s, x], argTypes := #[22, 22] }) (w0 : World) (v : Value) (l : List UInt8) (c : UInt8) (z : Int) (hz : z = (c.toNat : Int))
    (hs : a.eval s = v) (hx : a.eval x = .slice (some ⟨wr.heap.size, 0, none⟩) 1 1) (hB : Buf w0 v l wr) (hl : l.length ≤ 1073741824)
    (hK : ∀ v' w', Buf w0 v' (l ++ [c]) w' → wpList Ybgs.prog ops Q rest (a.put o.dst v') w') : wpList Ybgs.prog ops Q (o :: rest) a (wr.alloc (.cells #[.int .u8 z] 5)) := by
  subst hz
  obtain ⟨i0, hi0, hz0, hz1, hz2⟩ := info_parts Ybgs.info5
  have hsz := hB.below.size
  refine wpList_append_own _ hgd s x 22 ho w0.heap.size 5 i0 (.int .u8 0) 1 1 Ybgs.underlying22 hi0 hz0 hz1 hz2 rfl (by decide) v l.length (cellsB l) hs (hB.own.alloc _) ⟨wr.heap.size, 0, none⟩ 1 1 [.int .u8 (c.toNat : Int)] hx rfl ?_ ?_ (by unfold maxLen; omega) (by omega) (by simp; omega) ?_
  · exact cell_one_new _ _ _
  · intro u hu; simp at hu; subst hu; rfl
  · intro v' w' hown' hg _
    refine hK v' w' ⟨?_, ?_⟩
    · have : cellsB (l ++ [c]) = cellsB l ++ [.int .u8 (c.toNat : Int)] := by simp [cellsB]
      rw [this]
      simpa using hown'
    · exact (hB.below.alloc hsz _).grown hg (by simp; omega) (fun k hk => (hB.own.lt k hk).1)
theorem wpList_buf_str (wr : World) {ops : Array Oper} {rest : List Oper} {o : Oper} {a : Act} {Q : Exit → Act → World → Prop} (hgd : o.guard = none) (s x : Operand)
    (ho : o.op = .call { callee := .builtin .append, args := #[s, x], argTypes := #[22, 9] }) (w0 : World) (v : Value) (l : List UInt8) (y : List UInt8)
    (hs : a.eval s = v) (hx : a.eval x = .string (mk y)) (hB : Buf w0 v l wr) (hl : l.length + y.length ≤ 1073741824)
    (hK : ∀ v' w', Buf w0 v' (l ++ y) w' → wpList Ybgs.prog ops Q rest (a.put o.dst v') w') : wpList Ybgs.prog ops Q (o :: rest) a wr := by
  obtain ⟨i0, hi0, hz0, hz1, hz2⟩ := info_parts Ybgs.info5
  have hsz := hB.below.size
  have e : (mk y).size = y.length := rfl
  refine Lib.wpList_append_own_string (w := wr) hgd s x 22 9 ho w0.heap.size 5 i0 Ybgs.underlying22 Ybgs.underlying9 hi0 hz0 hz1 hz2 v l.length (cellsB l) hs hB.own (mk y) hx (by rw [e]; unfold maxLen; omega) (by rw [e]; omega) hsz ?_
  intro v' w' hown' hg _
  refine hK v' w' ⟨?_, hB.below.grown hg hsz (fun k hk => (hB.own.lt k hk).1)⟩
  have : cellsB (l ++ y) = cellsB l ++ Lib.strCells (mk y) := by simp [cellsB, Lib.strCells, mk]
  rw [this, List.length_append]
  exact hown'

/-- what the bytes are as a string -/
theorem buf_str {w0 : World} {v : Value} {l : List UInt8} {wr : World} (h : Buf w0 v l wr) : (convert 22 9 v).run Ybgs.prog wr = .ok (.string (mk l)) wr := by
  rcases h.own.2 with ⟨rfl, h0⟩ | ⟨g, cap, cur, rfl, hg, hh, hnc, hcm, hcs, ht⟩
  · have : l = [] := List.eq_nil_of_length_eq_zero h0
    subst this
    exact run_convert_bytes_nil _ 22 5 Ybgs.underlying22 Ybgs.underlying5 0 0 9 Ybgs.underlying9
  · have hc := h.own.cells (g := g) rfl
    refine run_convert_bytes_back (P := Ybgs.prog) wr 22 9 5 ⟨g, 0, none⟩ cap l Ybgs.underlying22 Ybgs.underlying5 Ybgs.underlying9 (fun j hj => hc j _ ?_)
    simp [cellsB, hj]
end Go.Proofs.YboneseleGreatFmt
