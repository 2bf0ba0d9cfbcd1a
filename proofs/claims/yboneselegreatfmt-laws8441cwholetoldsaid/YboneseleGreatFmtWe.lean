import Derived.Test.YboneseleGreatFmtWd
namespace Go.Proofs.YboneseleGreatFmt
open Go.RowKit Go.Extern.Stop Go.Stop Go.Extern

/-- what 'evaluate' leaves where it answers -/
def EvP (bv : Bool) (w : World) (e : Ending) (w' : World) : Prop := e = .returned (.tuple #[.bool bv, .nilIface]) ∧ Below w.heap.size w w'
/-- .. and where the text has a fault at place o -/
def EvF (o : Nat) (w : World) (e : Ending) (w' : World) : Prop := ∃ xb m, e = .returned (.tuple #[.bool false, .iface 75 (.pointer (some ⟨xb, 0, none⟩))]) ∧ Below w.heap.size w w' ∧ w'.heap[xb]? = some (.cells #[.int .i64 (o : Int), .string m] 78)

set_option maxRecDepth 100000 in
set_option maxHeartbeats 1000000 in
theorem eval_ok {eb : Nat} {D : List UInt8 → Option Bool} {E : World → Prop} (hC : Cls eb D E) (N f : Nat) (hf : f ≤ 1000) (s : ByteArray) (hs : s.size ≤ 1073741824) (bv : Bool) (hA : Pl.orL (Pl.andL (Pl.notF D N f) N true) N false (rst s 0) = some (bv, [])) (w : World) (hE : E w) :
    Calls Ybgs.prog 6 #[.pointer (some ⟨eb, 0, none⟩), .string s] w (EvP bv w) := by
  have HP : Hid (Calls _ _ _ _ _) := Parse_ok eb D E N f hC hf s hs bv hA w
  have HCC : Hid (Cls eb D E) := hC
  have HE : Hid (E w) := hE
  clear hA hC hE
  have hmf : ∀ (fn : Fn) (first cap : Array Value) (w : World), (Instr.makeFunc fn first cap).run Ybgs.prog w = .ok (.func fn first cap) w := fun _ _ _ _ => rfl
  go_enter Ybgs.func6, Ybgs.ntmps6
  go_wp2_with fail
  refine HP.out.mono ?_
  rintro e w1 ⟨T, x, F1, rfl, hb, hd⟩
  have HB : Hid (Below w.heap.size w w1) := hb
  obtain ⟨h0, T', x', fn, y, hv, hm, hcf, hc⟩ := hd
  injection hv with hT hx
  subst hT
  subst hx
  have HCL : Hid (Calls _ _ _ _ _) := hc w1 (fun _ _ => rfl) (HCC.out.below _ _ HE.out hb)
  clear hb h0 hc
  go_wp2_with fail
  refine HCL.out.mono ?_
  rintro e w2 ⟨rfl, hb2⟩
  have HB2 : Hid (Below w.heap.size w w2) := HB.out.trans (hb2.mono HB.out.size)
  clear hb2
  go_wp2_with fail
  go_ret2
  exact ⟨rfl, HB2.out⟩

set_option maxRecDepth 100000 in
set_option maxHeartbeats 1000000 in
theorem eval_bad (eb : Nat) (s : ByteArray) (o : Nat) (w : World) (h : Calls Ybgs.prog 7 #[.string s] w (Fault o w)) :
    Calls Ybgs.prog 6 #[.pointer (some ⟨eb, 0, none⟩), .string s] w (EvF o w) := by
  have HP : Hid (Calls _ _ _ _ _) := h
  clear h
  go_enter Ybgs.func6, Ybgs.ntmps6
  go_wp2_with fail
  refine HP.out.mono ?_
  rintro e w1 ⟨xb, m, rfl, hb, hc⟩
  have HB : Hid (Below w.heap.size w w1) := hb
  have HC : Hid (w1.heap[xb]? = some (.cells #[.int .i64 (o : Int), .string m] 78)) := hc
  clear hb hc
  go_wp2_with fail
  go_ret2
  exact ⟨xb, m, rfl, HB.out, HC.out⟩
end Go.Proofs.YboneseleGreatFmt
