import Derived.Test.YboneseleGreatFmtWf
/-
  MEMORY AHEAD OF THE LOOP THAT FILLS THE MAPS, with a frame and without.
-/
namespace Go.Proofs.YboneseleGreatFmt
open Go.RowKit Go.WideMaps Go.Maps

theorem cls_new (w : World) (b : Nat) (hb : b = w.heap.size) : ClsAt (w.alloc (.map #[] 0)) b 0 (fun _ => false) := by
  subst hb
  exact ⟨.map [], World.ownsMap_made w _ _ _, fun _ => rfl⟩
theorem neg_new (w : World) (b : Nat) (hb : b = w.heap.size) : NegAt (w.alloc (.map #[] 0)) b 0 (fun _ => false) := by
  subst hb
  exact ⟨.map [], World.ownsMap_made w _ _ _, fun _ => rfl⟩
theorem ClsAt.alloc {w : World} {b n : Nat} {S : List UInt8 → Bool} (h : ClsAt w b n S) (o : Obj) : ClsAt (w.alloc o) b n S := h.kept (World.grownBy_alloc w o none) (by simp)
theorem NegAt.alloc {w : World} {b n : Nat} {S : List UInt8 → Bool} (h : NegAt w b n S) (o : Obj) : NegAt (w.alloc o) b n S := h.kept (World.grownBy_alloc w o none) (by simp)
theorem at_new {w : World} {c : Array Value} {t : TypeId} {b i : Nat} {v : Value} (hb : b = w.heap.size) (hv : c[i]? = some v) : (w.alloc (.cells c t)).cell? ⟨b, i, none⟩ = some v := by
  subst hb; rw [World.cell?_alloc_new]; exact hv
theorem at_old {w : World} {b i : Nat} {v : Value} (o : Obj) (h : w.cell? ⟨b, i, none⟩ = some v) : (w.alloc o).cell? ⟨b, i, none⟩ = some v := by
  rw [World.cell?_alloc_lt _ _ _ (World.block_lt_of_cell? _ _ h)]; exact h

theorem sts_new (w : World) (st : Nat → Nat) (j : Nat) (hj : j < 5) : (w.alloc (.cells #[.int .u8 (st 0 : Int), .int .u8 (st 1 : Int), .int .u8 (st 2 : Int), .int .u8 (st 3 : Int), .int .u8 (st 4 : Int)] 23)).cell? ⟨w.heap.size, j, none⟩ = some (.int .u8 (st j : Int)) := by
  refine at_new rfl ?_
  match j, hj with
  | 0, _ => rfl
  | 1, _ => rfl
  | 2, _ => rfl
  | 3, _ => rfl
  | 4, _ => rfl

theorem ms_fr (w : World) (st : Nat → Nat) (R Fr : Array Value) (tr tf : TypeId) (h5 : R[12]? = some (.map (some (w.heap.size + 1)))) (h6 : R[13]? = some (.map (some (w.heap.size + 1 + 1)))) (h3 : Fr[3]? = some (.map (some (w.heap.size + 1 + 1 + 1 + 1)))) :
    MS w.heap.size st true w 0 0 0 (setTo st 0 0) (setTo st 2 0) (setTo st 1 0) ((((((w.alloc (.cells #[.int .u8 (st 0 : Int), .int .u8 (st 1 : Int), .int .u8 (st 2 : Int), .int .u8 (st 3 : Int), .int .u8 (st 4 : Int)] 23)).alloc (.map #[] 0)).alloc (.map #[] 0)).alloc (.cells R tr)).alloc (.map #[] 0)).alloc (.cells Fr tf)) := by
  refine ⟨?_, by simp, fun j hj => ?_, ?_, ?_, fun _ => ?_, ?_, ?_, fun _ => ?_⟩
  · exact ((((((Below.refl _ _).alloc (Nat.le_refl _) _).alloc (by simp) _).alloc (by simp; omega) _).alloc (by simp; omega) _).alloc (by simp; omega) _).alloc (by simp; omega) _
  · exact at_old _ (at_old _ (at_old _ (at_old _ (at_old _ (sts_new w st j hj)))))
  · exact at_old _ (at_old _ (at_new (by simp) h5))
  · exact at_old _ (at_old _ (at_new (by simp) h6))
  · exact at_new (by simp) h3
  · exact ((((cls_new _ _ (by simp)).alloc _).alloc _).alloc _).alloc _
  · exact (((neg_new _ _ (by simp)).alloc _).alloc _).alloc _
  · exact (cls_new _ _ (by simp)).alloc _
theorem ms_no (w : World) (st : Nat → Nat) (R : Array Value) (tr : TypeId) (h5 : R[12]? = some (.map (some (w.heap.size + 1)))) (h6 : R[13]? = some (.map (some (w.heap.size + 1 + 1)))) :
    MS w.heap.size st false w 0 0 0 (setTo st 0 0) (setTo st 2 0) (setTo st 1 0) ((((w.alloc (.cells #[.int .u8 (st 0 : Int), .int .u8 (st 1 : Int), .int .u8 (st 2 : Int), .int .u8 (st 3 : Int), .int .u8 (st 4 : Int)] 23)).alloc (.map #[] 0)).alloc (.map #[] 0)).alloc (.cells R tr)) := by
  refine ⟨?_, by simp, fun j hj => ?_, ?_, ?_, (fun h => by cases h), ?_, ?_, (fun h => by cases h)⟩
  · exact ((((Below.refl _ _).alloc (Nat.le_refl _) _).alloc (by simp) _).alloc (by simp; omega) _).alloc (by simp; omega) _
  · exact at_old _ (at_old _ (at_old _ (sts_new w st j hj)))
  · exact at_new (by simp) h5
  · exact at_new (by simp) h6
  · exact ((cls_new _ _ (by simp)).alloc _).alloc _
  · exact (neg_new _ _ (by simp)).alloc _

/-- what the environment is once the maps are filled -/
theorem MS.env {B : Nat} {st : Nat → Nat} {fr : Bool} {w : World} {Sc Sn Sf : List UInt8 → Bool} {wr : World} (h : MS B st fr w 5 5 5 Sc Sn Sf wr) (C : Array Value) (t : TypeId) (h0 : C[0]? = some (.pointer (some ⟨B + 3, 0, none⟩))) (h3 : C[3]? = some (.pointer (if fr then some ⟨B + 5, 0, none⟩ else none))) :
    EnvAt wr.heap.size (B + 3) (B + 1) (B + 2) (if fr then some (B + 5, B + 4) else none) Sc Sn Sf (wr.alloc (.cells C t)) := by
  refine ⟨at_new rfl h0, ?_, at_old _ h.r5, at_old _ h.r6, fun fb mf hfo => ?_, h.mc.alloc _, h.mn.alloc _⟩
  · cases fr with
    | true => exact at_new rfl h3
    | false => exact at_new rfl h3
  · cases fr with
    | false => cases hfo
    | true =>
      injection hfo with hfo
      injection hfo with e1 e2
      subst e1 e2
      exact ⟨at_old _ (h.f3 rfl), (h.mf rfl).alloc _⟩

/-- whether the name of state s is defined -/
def vkS (st : Nat → Nat) (fr : Bool) (j : Nat) : Bool := !(st j / 2 ^ 2 % 2 == 1) && ((st j / 2 ^ 0 % 2 == 1) || (fr && (st j / 2 ^ 1 % 2 == 1)))
theorem DD_full (st : Nat → Nat) (fr : Bool) (B : Nat) (t : Nat) : DD (if fr then some (B + 5, B + 4) else none) (setTo st 0 5) (setTo st 2 5) (setTo st 1 5) (Pl.full t) = some (vkS st fr (t % 5)) := by
  unfold DD
  rw [if_pos (by have := Pl.full_len t; omega), strip_full]
  unfold dfn vkS
  rw [setTo_at st 0 _ (Nat.mod_lt _ (by decide)), setTo_at st 2 _ (Nat.mod_lt _ (by decide)), setTo_at st 1 _ (Nat.mod_lt _ (by decide))]
  cases fr <;> rfl
end Go.Proofs.YboneseleGreatFmt
