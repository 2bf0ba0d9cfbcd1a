import Derived.Test.YboneseleGreatFmtRows
import Derived.KernelRfl
/-
  'laidOutB' OF THIS PROGRAM, in pieces: all at once the kernel outgrows its lid.
-/
namespace Go.Proofs.YboneseleGreatFmt
theorem of_chunk {f : Nat → Bool} {a n t : Nat} (h : (List.range' a n).all f = true) (h1 : a ≤ t) (h2 : t < a + n) : f t = true := List.all_eq_true.1 h t (List.mem_range'_1.2 ⟨h1, h2⟩)
theorem lo_0 : (List.range' 0 40).all (rowFine Ybgs.prog) = true := by kernel_rfl
theorem lo_1 : (List.range' 40 40).all (rowFine Ybgs.prog) = true := by kernel_rfl
theorem lo_2 : (List.range' 80 40).all (rowFine Ybgs.prog) = true := by kernel_rfl
theorem lo_3 : (List.range' 120 40).all (rowFine Ybgs.prog) = true := by kernel_rfl
theorem lo_4 : (List.range' 160 40).all (rowFine Ybgs.prog) = true := by kernel_rfl
theorem lo_5 : (List.range' 200 40).all (rowFine Ybgs.prog) = true := by kernel_rfl
theorem lo_6 : (List.range' 240 40).all (rowFine Ybgs.prog) = true := by kernel_rfl
theorem lo_7 : (List.range' 280 40).all (rowFine Ybgs.prog) = true := by kernel_rfl
theorem lo_8 : (List.range' 320 40).all (rowFine Ybgs.prog) = true := by kernel_rfl
theorem lo_9 : (List.range' 360 40).all (rowFine Ybgs.prog) = true := by kernel_rfl
theorem lo_10 : (List.range' 400 40).all (rowFine Ybgs.prog) = true := by kernel_rfl
theorem lo_11 : (List.range' 440 40).all (rowFine Ybgs.prog) = true := by kernel_rfl
theorem lo_12 : (List.range' 480 40).all (rowFine Ybgs.prog) = true := by kernel_rfl
theorem lo_13 : (List.range' 520 40).all (rowFine Ybgs.prog) = true := by kernel_rfl
theorem lo_14 : (List.range' 560 40).all (rowFine Ybgs.prog) = true := by kernel_rfl
theorem lo_15 : (List.range' 600 40).all (rowFine Ybgs.prog) = true := by kernel_rfl
theorem lo_16 : (List.range' 640 40).all (rowFine Ybgs.prog) = true := by kernel_rfl
theorem lo_17 : (List.range' 680 1).all (rowFine Ybgs.prog) = true := by kernel_rfl
theorem lo_sz : Ybgs.prog.types.size = 681 := of_decide_eq_true (by kernel_rfl)
theorem lo_gl : Ybgs.prog.globals.all (fun g => decide (g.type < Ybgs.prog.types.size)) = true := by kernel_rfl
theorem lo_fn : Ybgs.prog.funcs.all (fun f => f.params.all fun t => decide (t < Ybgs.prog.types.size)) = true := by kernel_rfl
theorem lo_all (t : Nat) (h : t < 681) : rowFine Ybgs.prog t = true := by
  by_cases h0 : t < 40
  · exact of_chunk lo_0 (by omega) (by omega)
  by_cases h1 : t < 80
  · exact of_chunk lo_1 (by omega) (by omega)
  by_cases h2 : t < 120
  · exact of_chunk lo_2 (by omega) (by omega)
  by_cases h3 : t < 160
  · exact of_chunk lo_3 (by omega) (by omega)
  by_cases h4 : t < 200
  · exact of_chunk lo_4 (by omega) (by omega)
  by_cases h5 : t < 240
  · exact of_chunk lo_5 (by omega) (by omega)
  by_cases h6 : t < 280
  · exact of_chunk lo_6 (by omega) (by omega)
  by_cases h7 : t < 320
  · exact of_chunk lo_7 (by omega) (by omega)
  by_cases h8 : t < 360
  · exact of_chunk lo_8 (by omega) (by omega)
  by_cases h9 : t < 400
  · exact of_chunk lo_9 (by omega) (by omega)
  by_cases h10 : t < 440
  · exact of_chunk lo_10 (by omega) (by omega)
  by_cases h11 : t < 480
  · exact of_chunk lo_11 (by omega) (by omega)
  by_cases h12 : t < 520
  · exact of_chunk lo_12 (by omega) (by omega)
  by_cases h13 : t < 560
  · exact of_chunk lo_13 (by omega) (by omega)
  by_cases h14 : t < 600
  · exact of_chunk lo_14 (by omega) (by omega)
  by_cases h15 : t < 640
  · exact of_chunk lo_15 (by omega) (by omega)
  by_cases h16 : t < 680
  · exact of_chunk lo_16 (by omega) (by omega)
  exact of_chunk lo_17 (by omega) (by omega)
theorem Ybgs.laidOut : laidOutB Ybgs.prog = true := by
  unfold laidOutB
  rw [lo_gl, lo_fn, Bool.and_true, Bool.and_true, List.all_eq_true]
  intro t ht
  exact lo_all t (by rw [← lo_sz]; exact List.mem_range.1 ht)
end Go.Proofs.YboneseleGreatFmt
