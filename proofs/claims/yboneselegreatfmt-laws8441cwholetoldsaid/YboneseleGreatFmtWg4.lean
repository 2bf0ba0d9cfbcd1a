import Derived.Test.YboneseleGreatFmtWg3
/-
  'evaluate' ON THE LAW's OWN TEXT: its value; and its fault where a bracket too many stands at the end.
-/
namespace Go.Proofs.YboneseleGreatFmt
open Go.RowKit Go.Extern.Stop Go.Stop Go.Extern

def bvE (st : Nat → Nat) (fr : Bool) (S T : Nat → Nat) (n : Nat) : Bool := (Pl.ag (vkS st fr) S T n).1 || (Pl.ag (vkS st fr) S T n).2

theorem ms_anyf {B : Nat} {st : Nat → Nat} {w : World} {nc nn nf nf' : Nat} {Sc Sn Sf Sf' : List UInt8 → Bool} {wr : World} (h : MS B st false w nc nn nf Sc Sn Sf wr) : MS B st false w nc nn nf' Sc Sn Sf' wr :=
  ⟨h.below, h.size, h.sts, h.r5, h.r6, (fun e => by cases e), h.mc, h.mn, (fun e => by cases e)⟩
theorem buf_slice {w0 : World} {v : Value} {l : List UInt8} {wr : World} (h : Buf w0 v l wr) : ∃ ao c, v = .slice ao l.length c := by
  rcases h.own.2 with ⟨rfl, h0⟩ | ⟨g, cap, cur, rfl, _⟩
  · exact ⟨_, _, by rw [h0]⟩
  · exact ⟨_, _, rfl⟩
theorem rst_zero (l : List UInt8) : rst (mk l) 0 = l := rfl
theorem mk_brk (l : List UInt8) : mk l ++ (⟨#[41]⟩ : ByteArray) = mk (l ++ [41]) := by
  apply ByteArray.ext
  apply Array.ext'
  simp [mk]

theorem read_whole (st : Nat → Nat) (fr : Bool) (B : Nat) (S T : Nat → Nat) (n : Nat) (hn : 1 ≤ n) (hn2 : n ≤ 65536) (rest : List UInt8) (hr : rest = [] ∨ ∃ x, rest = 41 :: x) :
    Pl.orL (Pl.andL (Pl.notF (DD (if fr then some (B + 5, B + 4) else none) (setTo st 0 5) (setTo st 2 5) (setTo st 1 5)) 70000 3) 70000 true) 70000 false (Pl.txt S T n ++ rest) = some (bvE st fr S T n, rest) := by
  obtain ⟨k, rfl⟩ : ∃ k, n = k + 1 := ⟨n - 1, by omega⟩
  have h := Pl.whole (DD (if fr then some (B + 5, B + 4) else none) (setTo st 0 5) (setTo st 2 5) (setTo st 1 5)) (vkS st fr) 70000 (DD_full st fr B) (T 0) (Pl.LL S T k) rest hr (by rw [Pl.LL_len]; omega)
  rw [Pl.txt_is, h, bvE, Pl.ag_is, Pl.fin_acc]

theorem ev_good (st : Nat → Nat) (fr : Bool) (B eb : Nat) (S T : Nat → Nat) (n : Nat) (hn : 1 ≤ n) (hn2 : n ≤ 65536) (w2 wr : World) (hE : EnvAt eb (B + 3) (B + 1) (B + 2) (if fr then some (B + 5, B + 4) else none) (setTo st 0 5) (setTo st 2 5) (setTo st 1 5) w2) (hB : Below w2.heap.size w2 wr) :
    Calls Ybgs.prog 6 #[.pointer (some ⟨eb, 0, none⟩), .string (mk (Pl.txt S T n))] wr (EvP (bvE st fr S T n) wr) := by
  have hl := Pl.txt_len S T n
  have h := read_whole st fr B S T n hn hn2 [] (Or.inl rfl)
  rw [List.append_nil] at h
  exact eval_ok (env_cls _ _ _ _ _ _ _ _) 70000 3 (by omega) _ (by rw [mk_size]; omega) _ (by rw [rst_zero]; exact h) wr ((env_cls _ _ _ _ _ _ _ _).below _ _ hE hB)

theorem ev_bad (F : Interp) (st : Nat → Nat) (fr : Bool) (B eb : Nat) (S T : Nat → Nat) (n : Nat) (hn : 1 ≤ n) (hn2 : n ≤ 65536) (wr : World) (hF : F.answers wr.tape) :
    Calls Ybgs.prog 6 #[.pointer (some ⟨eb, 0, none⟩), .string (mk (Pl.txt S T n) ++ ⟨#[41]⟩)] wr (EvF (Pl.txt S T n).length wr) := by
  have hl := Pl.txt_len S T n
  have h := read_whole st fr B S T n hn hn2 [41] (Or.inr ⟨[], rfl⟩)
  rw [mk_brk]
  refine eval_bad eb _ _ wr (Parse_fault _ _ wr ?_)
  have := parse_tail eb _ _ 70000 3 (env_cls eb (B + 3) (B + 1) (B + 2) (if fr then some (B + 5, B + 4) else none) (setTo st 0 5) (setTo st 2 5) (setTo st 1 5)) (by omega) F (mk (Pl.txt S T n ++ [41])) (by rw [mk_size, List.length_append]; simp; omega) _ [] (by rw [rst_zero]; exact h) wr hF
  rw [mk_size, List.length_append] at this
  simpa using this
end Go.Proofs.YboneseleGreatFmt
