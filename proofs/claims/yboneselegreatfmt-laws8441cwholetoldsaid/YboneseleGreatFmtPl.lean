import Derived.WalkKit
/-
  THE PLAIN LAW: an evaluator that parses as the Go text does ('notF', 'andL', 'orL'); the law's flat expression and its value; no Go in sight.
-/
namespace Go.Proofs.YboneseleGreatFmt.Pl

def isWs (c : UInt8) : Bool := c == 32 || c == 9
def skip : List UInt8 → List UInt8
  | [] => []
  | c :: t => if isWs c then skip t else c :: t

def isNm (c : UInt8) : Bool := (97 ≤ c && c ≤ 122) || (65 ≤ c && c ≤ 90) || (48 ≤ c && c ≤ 57) || c == 95
/-- does the list open with a name's byte? -/
def headNm : List UInt8 → Bool
  | [] => false
  | c :: _ => isNm c
/-- how many bytes the name takes ('st': some byte of it has been read) -/
def nameLen : Bool → List UInt8 → Nat
  | _, [] => 0
  | st, c :: t => if isNm c then nameLen true t + 1 else if c == 58 && st && headNm t then nameLen true t + 1 else 0

def headIs (c : UInt8) : List UInt8 → Bool
  | [] => false
  | x :: _ => x == c

def andL (nt : List UInt8 → Option (Bool × List UInt8)) : Nat → Bool → List UInt8 → Option (Bool × List UInt8)
  | 0, _, _ => none
  | n + 1, acc, l => match nt l with
    | none => none
    | some (b, r) => if headIs 46 (skip r) || headIs 38 (skip r) then andL nt n (acc && b) (skip r).tail else some (acc && b, skip r)

def orL (an : List UInt8 → Option (Bool × List UInt8)) : Nat → Bool → List UInt8 → Option (Bool × List UInt8)
  | 0, _, _ => none
  | n + 1, acc, l => match an l with
    | none => none
    | some (b, r) => if headIs 124 (skip r) then
        (if headIs 124 (skip r).tail then orL an n (acc || b) (skip r).tail.tail else orL an n (acc || b) (skip r).tail) else some (acc || b, skip r)

def notF (D : List UInt8 → Option Bool) (N : Nat) : Nat → List UInt8 → Option (Bool × List UInt8)
  | 0, _ => none
  | f + 1, l =>
    if headIs 33 (skip l) then (match notF D N f (skip l).tail with | none => none | some (b, r) => some (!b, r))
    else if headIs 40 (skip l) then (match orL (andL (notF D N f) N true) N false (skip l).tail with
      | none => none
      | some (b, r) => if headIs 41 (skip r) then some (b, (skip r).tail) else none)
    else if nameLen false (skip l) = 0 then none
    else if headIs 36 ((skip l).drop (nameLen false (skip l))) then none
    else match D ((skip l).take (nameLen false (skip l))) with
      | none => none
      | some b => some (b, (skip l).drop (nameLen false (skip l)))

/-! ### small facts -/
def ws (u : List UInt8) : Prop := ∀ c ∈ u, isWs c = true
theorem ws_nil : ws [] := by intro c h; cases h
theorem ws_app {u v : List UInt8} (a : ws u) (b : ws v) : ws (u ++ v) := by
  intro c h; rcases List.mem_append.1 h with h | h
  · exact a c h
  · exact b c h
theorem skip_ws {u : List UInt8} (h : ws u) (l : List UInt8) : skip (u ++ l) = skip l := by
  induction u with
  | nil => rfl
  | cons c t ih =>
    have hc : isWs c = true := h c (by simp)
    have : skip (c :: (t ++ l)) = skip (t ++ l) := by simp [skip, hc]
    rw [List.cons_append, this]
    exact ih (fun x hx => h x (by simp [hx]))

theorem skip_cons {c : UInt8} (h : isWs c = false) (l : List UInt8) : skip (c :: l) = c :: l := by simp [skip, h]
theorem skip_of_ws {u : List UInt8} (h : ws u) : skip u = [] := by
  have := skip_ws h []
  simpa [skip] using this

theorem skip_skip (l : List UInt8) : skip (skip l) = skip l := by
  induction l with
  | nil => rfl
  | cons c t ih =>
    cases hc : isWs c with
    | true => simp [skip, hc, ih]
    | false => simp [skip, hc]


end Go.Proofs.YboneseleGreatFmt.Pl
