import Derived.Deep.Trees
/-
  THE PLAIN LAW: an evaluator that parses as the Go text does ('notF', 'andL', 'orL'), trees, their text ('rend') and their value ('ev'); no Go in sight.
-/
namespace Go.Proofs.YbulkfrueFmt.Pl
open Go.Deep (BT)

def isWs (c : UInt8) : Bool := c == 32 || c == 9
def skip : List UInt8 → List UInt8
  | [] => []
  | c :: t => if isWs c then skip t else c :: t

def isNm (c : UInt8) : Bool := (97 ≤ c && c ≤ 122) || (65 ≤ c && c ≤ 90) || (48 ≤ c && c ≤ 57) || c == 95
/-- does the list open with a name's byte? -/
def headNm : List UInt8 → Bool
  | [] => false
  | c :: _ => isNm c
/-- how many bytes the name takes ('st': some byte of it has been read) -/
def nameLen : Bool → List UInt8 → Nat
  | _, [] => 0
  | st, c :: t => if isNm c then nameLen true t + 1 else if c == 58 && st && headNm t then nameLen true t + 1 else 0

def headIs (c : UInt8) : List UInt8 → Bool
  | [] => false
  | x :: _ => x == c

def andL (nt : List UInt8 → Option (Bool × List UInt8)) : Nat → Bool → List UInt8 → Option (Bool × List UInt8)
  | 0, _, _ => none
  | n + 1, acc, l => match nt l with
    | none => none
    | some (b, r) => if headIs 46 (skip r) || headIs 38 (skip r) then andL nt n (acc && b) (skip r).tail else some (acc && b, skip r)

def orL (an : List UInt8 → Option (Bool × List UInt8)) : Nat → Bool → List UInt8 → Option (Bool × List UInt8)
  | 0, _, _ => none
  | n + 1, acc, l => match an l with
    | none => none
    | some (b, r) => if headIs 124 (skip r) then
        (if headIs 124 (skip r).tail then orL an n (acc || b) (skip r).tail.tail else orL an n (acc || b) (skip r).tail) else some (acc || b, skip r)

def notF (D : List UInt8 → Option Bool) (N : Nat) : Nat → List UInt8 → Option (Bool × List UInt8)
  | 0, _ => none
  | f + 1, l =>
    if headIs 33 (skip l) then (match notF D N f (skip l).tail with | none => none | some (b, r) => some (!b, r))
    else if headIs 40 (skip l) then (match orL (andL (notF D N f) N true) N false (skip l).tail with
      | none => none
      | some (b, r) => if headIs 41 (skip r) then some (b, (skip r).tail) else none)
    else if nameLen false (skip l) = 0 then none
    else if headIs 36 ((skip l).drop (nameLen false (skip l))) then none
    else match D ((skip l).take (nameLen false (skip l))) with
      | none => none
      | some b => some (b, (skip l).drop (nameLen false (skip l)))

/-! ### trees -/
def nmL (i : Nat) : List UInt8 := if i = 0 then [108, 105, 110, 117, 120] else if i = 1 then [119, 101, 98, 95, 49] else if i = 2 then [90, 111, 110, 101, 57] else [100, 98]
def wsL (i : Nat) : List UInt8 := if i % 4 = 1 then [32] else if i % 4 = 2 then [9] else if i % 4 = 3 then [32, 9] else []
def sepA (st : Nat) : List UInt8 := if st / 4 % 2 = 1 then [38] else [46]
def sepO (st : Nat) : List UInt8 := if st / 4 % 2 = 1 then [124, 124] else [124]
def wrapB (k st ctx : Nat) : Bool := (k == 3 && decide (1 ≤ ctx)) || (k == 2 && ctx == 2) || st / 16 % 2 == 1

def rend : BT (Nat × Nat) → Nat → List UInt8
  | .nil, _ => []
  | .node _ _ (k, st) l r, ctx =>
    let s := if k = 0 then nmL (st % 4) else if k = 1 then [33] ++ wsL st ++ rend l 2
      else if k = 2 then rend l 1 ++ wsL st ++ sepA st ++ wsL (st / 2) ++ rend r 1
      else rend l 0 ++ wsL st ++ sepO st ++ wsL (st / 2) ++ rend r 0
    if wrapB k st ctx then [40] ++ wsL (st / 4) ++ s ++ wsL (st / 8) ++ [41] else s

def body : BT (Nat × Nat) → List UInt8
  | .nil => []
  | .node _ _ (k, st) l r => if k = 0 then nmL (st % 4) else if k = 1 then [33] ++ wsL st ++ rend l 2
      else if k = 2 then rend l 1 ++ wsL st ++ sepA st ++ wsL (st / 2) ++ rend r 1
      else rend l 0 ++ wsL st ++ sepO st ++ wsL (st / 2) ++ rend r 0

theorem rend_node (b o k st : Nat) (l r : BT (Nat × Nat)) (ctx : Nat) :
    rend (.node b o (k, st) l r) ctx = if wrapB k st ctx then [40] ++ wsL (st / 4) ++ body (.node b o (k, st) l r) ++ wsL (st / 8) ++ [41] else body (.node b o (k, st) l r) := rfl

def ev (df : Nat → Bool) : BT (Nat × Nat) → Bool
  | .nil => false
  | .node _ _ (k, st) l r => if k = 1 then !ev df l else if k = 2 then ev df l && ev df r else if k = 3 then ev df l || ev df r else df (st % 4)

def good : Nat → BT (Nat × Nat) → Prop
  | _, .nil => False
  | d, .node _ _ (k, st) l r => st < 32 ∧ (k = 0 ∨ (0 < d ∧ ((k = 1 ∧ good (d - 1) l) ∨ ((k = 2 ∨ k = 3) ∧ good (d - 1) l ∧ good (d - 1) r))))

/-- what the four names stand for -/
def Dn (df : Nat → Bool) (nm : List UInt8) : Option Bool :=
  if nm = nmL 0 then some (df 0) else if nm = nmL 1 then some (df 1) else if nm = nmL 2 then some (df 2) else if nm = nmL 3 then some (df 3) else none

theorem Dn_nm (df : Nat → Bool) (i : Nat) (h : i < 4) : Dn df (nmL i) = some (df i) := by
  match i, h with
  | 0, _ => rfl
  | 1, _ => rfl
  | 2, _ => rfl
  | 3, _ => rfl

/-! ### small facts -/
def ws (u : List UInt8) : Prop := ∀ c ∈ u, isWs c = true
theorem ws_nil : ws [] := by intro c h; cases h
theorem ws_app {u v : List UInt8} (a : ws u) (b : ws v) : ws (u ++ v) := by
  intro c h; rcases List.mem_append.1 h with h | h
  · exact a c h
  · exact b c h
theorem ws_wsL (i : Nat) : ws (wsL i) := by
  intro c h
  unfold wsL at h
  split at h
  · simp at h; subst h; rfl
  · split at h
    · simp at h; subst h; rfl
    · split at h
      · simp at h; rcases h with rfl | rfl <;> rfl
      · cases h

theorem skip_ws {u : List UInt8} (h : ws u) (l : List UInt8) : skip (u ++ l) = skip l := by
  induction u with
  | nil => rfl
  | cons c t ih =>
    have hc : isWs c = true := h c (by simp)
    have : skip (c :: (t ++ l)) = skip (t ++ l) := by simp [skip, hc]
    rw [List.cons_append, this]
    exact ih (fun x hx => h x (by simp [hx]))

theorem skip_cons {c : UInt8} (h : isWs c = false) (l : List UInt8) : skip (c :: l) = c :: l := by simp [skip, h]
theorem skip_of_ws {u : List UInt8} (h : ws u) : skip u = [] := by
  have := skip_ws h []
  simpa [skip] using this

theorem skip_skip (l : List UInt8) : skip (skip l) = skip l := by
  induction l with
  | nil => rfl
  | cons c t ih =>
    cases hc : isWs c with
    | true => simp [skip, hc, ih]
    | false => simp [skip, hc]

/-- what may follow a name: nothing, or a byte that ends it -/
def stop : List UInt8 → Bool
  | [] => true
  | c :: _ => c == 32 || c == 9 || c == 46 || c == 38 || c == 124 || c == 41
theorem stop_cases {l : List UInt8} (h : stop l = true) : l = [] ∨ ∃ c t, l = c :: t ∧ (c = 32 ∨ c = 9 ∨ c = 46 ∨ c = 38 ∨ c = 124 ∨ c = 41) := by
  cases l with
  | nil => exact Or.inl rfl
  | cons c t =>
    refine Or.inr ⟨c, t, rfl, ?_⟩
    simp only [stop, Bool.or_eq_true, beq_iff_eq] at h
    rcases h with ((((h | h) | h) | h) | h) | h <;> simp [h]

theorem stop_ws (i : Nat) {l : List UInt8} (h : stop l = true) : stop (wsL i ++ l) = true := by
  unfold wsL
  split
  · rfl
  · split
    · rfl
    · split
      · rfl
      · exact h

theorem nameLen_stop {l : List UInt8} (h : stop l = true) (st : Bool) : nameLen st l = 0 := by
  rcases stop_cases h with rfl | ⟨c, t, rfl, hc⟩
  · cases st <;> rfl
  · rcases hc with rfl | rfl | rfl | rfl | rfl | rfl <;> rfl

theorem nameLen_app (nm l : List UInt8) (h : ∀ c ∈ nm, isNm c = true) (hl : stop l = true) (st : Bool) : nameLen st (nm ++ l) = nm.length := by
  induction nm generalizing st with
  | nil => exact nameLen_stop hl st
  | cons c t ih =>
    have hc := h c (by simp)
    have ht := ih (fun x hx => h x (by simp [hx])) true
    simp [nameLen, hc, ht]

theorem nm_ok (i : Nat) : ∀ c ∈ nmL i, isNm c = true := by
  intro c h
  unfold nmL at h
  split at h
  · revert c; decide
  · split at h
    · revert c; decide
    · split at h
      · revert c; decide
      · revert c; decide
theorem nm_head (i : Nat) : ∃ c t, nmL i = c :: t ∧ isWs c = false ∧ (c == 33) = false ∧ (c == 40) = false := by
  unfold nmL
  split
  · exact ⟨_, _, rfl, by decide⟩
  · split
    · exact ⟨_, _, rfl, by decide⟩
    · split
      · exact ⟨_, _, rfl, by decide⟩
      · exact ⟨_, _, rfl, by decide⟩

theorem stop_not36 {l : List UInt8} (h : stop l = true) : headIs 36 l = false := by
  rcases stop_cases h with rfl | ⟨c, t, rfl, hc⟩
  · rfl
  · rcases hc with rfl | rfl | rfl | rfl | rfl | rfl <;> rfl

section
variable (df : Nat → Bool) (N : Nat)

theorem not_name (f i : Nat) (hi : i < 4) (u rest : List UInt8) (hu : ws u) (hr : stop rest = true) :
    notF (Dn df) N (f + 1) (u ++ (nmL i ++ rest)) = some (df i, rest) := by
  obtain ⟨c, t, e, h1, h2, h3⟩ := nm_head i
  have hs : skip (u ++ (nmL i ++ rest)) = nmL i ++ rest := by
    rw [skip_ws hu, e, List.cons_append, skip_cons h1]
  have hn := nameLen_app (nmL i) rest (nm_ok i) hr false
  have hl : (nmL i).length ≠ 0 := by rw [e]; simp
  have a1 : headIs 33 (nmL i ++ rest) = false := by rw [e]; exact h2
  have a2 : headIs 40 (nmL i ++ rest) = false := by rw [e]; exact h3
  simp only [notF, hs, hn, a1, a2, Bool.false_eq_true, if_false, hl, List.drop_left, List.take_left, stop_not36 hr, Dn_nm df i hi]

theorem not_bang (f : Nat) (u l : List UInt8) (hu : ws u) (b : Bool) (r : List UInt8) (h : notF (Dn df) N f l = some (b, r)) :
    notF (Dn df) N (f + 1) (u ++ (33 :: l)) = some (!b, r) := by
  have hs : skip (u ++ (33 :: l)) = 33 :: l := by rw [skip_ws hu, skip_cons (by decide)]
  simp [notF, hs, headIs, h]

theorem not_paren (f : Nat) (u l : List UInt8) (hu : ws u) (b : Bool) (r : List UInt8) (h : orL (andL (notF (Dn df) N f) N true) N false l = some (b, 41 :: r)) :
    notF (Dn df) N (f + 1) (u ++ (40 :: l)) = some (b, r) := by
  have hs : skip (u ++ (40 :: l)) = 40 :: l := by rw [skip_ws hu, skip_cons (by decide)]
  have h41 : skip (41 :: r) = 41 :: r := skip_cons (by decide) r
  simp [notF, hs, headIs, h, h41]

theorem andL_mono (nt : List UInt8 → Option (Bool × List UInt8)) (n m : Nat) (acc : Bool) (l : List UInt8) (res : Bool × List UInt8) (h : andL nt n acc l = some res) (hm : n ≤ m) : andL nt m acc l = some res := by
  induction n generalizing m acc l with
  | zero => simp [andL] at h
  | succ n ih =>
    obtain ⟨m, rfl⟩ : ∃ k, m = k + 1 := ⟨m - 1, by omega⟩
    unfold andL at h ⊢
    cases hn : nt l with
    | none => rw [hn] at h; cases h
    | some x =>
      obtain ⟨b, r⟩ := x
      rw [hn] at h
      simp only at h ⊢
      split
      · rename_i hc
        rw [if_pos hc] at h
        exact ih m _ _ h (by omega)
      · rename_i hc
        rw [if_neg hc] at h
        exact h

theorem orL_mono (nt : List UInt8 → Option (Bool × List UInt8)) (n m : Nat) (acc : Bool) (l : List UInt8) (res : Bool × List UInt8) (h : orL nt n acc l = some res) (hm : n ≤ m) : orL nt m acc l = some res := by
  induction n generalizing m acc l with
  | zero => simp [orL] at h
  | succ n ih =>
    obtain ⟨m, rfl⟩ : ∃ k, m = k + 1 := ⟨m - 1, by omega⟩
    unfold orL at h ⊢
    cases hn : nt l with
    | none => rw [hn] at h; cases h
    | some x =>
      obtain ⟨b, r⟩ := x
      rw [hn] at h
      simp only at h ⊢
      split
      · rename_i hc
        rw [if_pos hc] at h
        split
        · rename_i hc2
          rw [if_pos hc2] at h
          exact ih m _ _ h (by omega)
        · rename_i hc2
          rw [if_neg hc2] at h
          exact ih m _ _ h (by omega)
      · rename_i hc
        rw [if_neg hc] at h
        exact h

/-- what follows a term of an and-chain -/
def andK (nt : List UInt8 → Option (Bool × List UInt8)) (n : Nat) (acc : Bool) (r : List UInt8) : Option (Bool × List UInt8) :=
  if headIs 46 (skip r) || headIs 38 (skip r) then andL nt n acc (skip r).tail else some (acc, skip r)
def orK (an : List UInt8 → Option (Bool × List UInt8)) (n : Nat) (acc : Bool) (r : List UInt8) : Option (Bool × List UInt8) :=
  if headIs 124 (skip r) then (if headIs 124 (skip r).tail then orL an n acc (skip r).tail.tail else orL an n acc (skip r).tail) else some (acc, skip r)

theorem andK_mono (nt : List UInt8 → Option (Bool × List UInt8)) (n m : Nat) (acc : Bool) (l : List UInt8) (res : Bool × List UInt8) (h : andK nt n acc l = some res) (hm : n ≤ m) : andK nt m acc l = some res := by
  unfold andK at h ⊢
  split
  · rename_i hc
    rw [if_pos hc] at h
    exact andL_mono nt n m _ _ _ h hm
  · rename_i hc
    rw [if_neg hc] at h
    exact h
theorem orK_mono (nt : List UInt8 → Option (Bool × List UInt8)) (n m : Nat) (acc : Bool) (l : List UInt8) (res : Bool × List UInt8) (h : orK nt n acc l = some res) (hm : n ≤ m) : orK nt m acc l = some res := by
  unfold orK at h ⊢
  split
  · rename_i hc
    rw [if_pos hc] at h
    split
    · rename_i hc2
      rw [if_pos hc2] at h
      exact orL_mono nt n m _ _ _ h hm
    · rename_i hc2
      rw [if_neg hc2] at h
      exact orL_mono nt n m _ _ _ h hm
  · rename_i hc
    rw [if_neg hc] at h
    exact h

theorem andL_one (nt : List UInt8 → Option (Bool × List UInt8)) (n : Nat) (acc b : Bool) (l r : List UInt8) (res : Bool × List UInt8) (h : nt l = some (b, r)) (hk : andK nt n (acc && b) r = some res) : andL nt (n + 1) acc l = some res := by
  unfold andL; rw [h]; exact hk
theorem orL_one (nt : List UInt8 → Option (Bool × List UInt8)) (n : Nat) (acc b : Bool) (l r : List UInt8) (res : Bool × List UInt8) (h : nt l = some (b, r)) (hk : orK nt n (acc || b) r = some res) : orL nt (n + 1) acc l = some res := by
  unfold orL; rw [h]; exact hk

/-- the and-chain has ended -/
def endA (r : List UInt8) : Prop := headIs 46 (skip r) = false ∧ headIs 38 (skip r) = false
theorem andK_end (nt : List UInt8 → Option (Bool × List UInt8)) (n : Nat) (acc : Bool) (r : List UInt8) (h : endA r) : andK nt n acc r = some (acc, skip r) := by
  unfold andK; simp [h.1, h.2]
theorem orK_end (nt : List UInt8 → Option (Bool × List UInt8)) (n : Nat) (acc : Bool) (r : List UInt8) (h : headIs 124 (skip r) = false) : orK nt n acc r = some (acc, skip r) := by
  unfold orK; simp [h]
theorem orK_skip (nt : List UInt8 → Option (Bool × List UInt8)) (n : Nat) (acc : Bool) (r : List UInt8) : orK nt n acc (skip r) = orK nt n acc r := by
  unfold orK; rw [skip_skip]

theorem andK_sep (nt : List UInt8 → Option (Bool × List UInt8)) (n st : Nat) (acc : Bool) (u l : List UInt8) (hu : ws u) : andK nt n acc (u ++ (sepA st ++ l)) = andL nt n acc l := by
  unfold sepA
  split
  · have hs : skip (u ++ ([38] ++ l)) = 38 :: l := by rw [skip_ws hu]; exact skip_cons (by decide) l
    simp only [andK, hs]; rfl
  · have hs : skip (u ++ ([46] ++ l)) = 46 :: l := by rw [skip_ws hu]; exact skip_cons (by decide) l
    simp only [andK, hs]; rfl
theorem orK_sep (nt : List UInt8 → Option (Bool × List UInt8)) (n st : Nat) (acc : Bool) (u l : List UInt8) (hu : ws u) (hl : headIs 124 l = false) : orK nt n acc (u ++ (sepO st ++ l)) = orL nt n acc l := by
  unfold sepO
  split
  · have hs : skip (u ++ ([124, 124] ++ l)) = 124 :: 124 :: l := by rw [skip_ws hu]; exact skip_cons (by decide) (124 :: l)
    simp only [orK, hs]; rfl
  · have hs : skip (u ++ ([124] ++ l)) = 124 :: l := by rw [skip_ws hu]; exact skip_cons (by decide) l
    have e1 : headIs 124 (124 :: l) = true := rfl
    have e2 : headIs 124 (124 :: l).tail = false := hl
    simp only [orK, hs, e1, e2, if_true, Bool.false_eq_true, if_false]; rfl
theorem endA_sepO (st : Nat) (u l : List UInt8) (hu : ws u) : endA (u ++ (sepO st ++ l)) := by
  have : ∃ t, skip (u ++ (sepO st ++ l)) = 124 :: t := by
    unfold sepO
    split
    · exact ⟨124 :: l, by rw [skip_ws hu]; exact skip_cons (by decide) (124 :: l)⟩
    · exact ⟨l, by rw [skip_ws hu]; exact skip_cons (by decide) l⟩
  obtain ⟨t, e⟩ := this
  unfold endA; rw [e]; exact ⟨rfl, rfl⟩
theorem stop_sepA (st : Nat) (l : List UInt8) : stop (sepA st ++ l) = true := by unfold sepA; split <;> rfl
theorem stop_sepO (st : Nat) (l : List UInt8) : stop (sepO st ++ l) = true := by unfold sepO; split <;> rfl

theorem body_0 (b o st : Nat) (l r : BT (Nat × Nat)) : body (.node b o (0, st) l r) = nmL (st % 4) := rfl
theorem body_1 (b o st : Nat) (l r : BT (Nat × Nat)) : body (.node b o (1, st) l r) = [33] ++ wsL st ++ rend l 2 := rfl
theorem body_2 (b o st : Nat) (l r : BT (Nat × Nat)) : body (.node b o (2, st) l r) = rend l 1 ++ wsL st ++ sepA st ++ wsL (st / 2) ++ rend r 1 := rfl
theorem body_3 (b o st : Nat) (l r : BT (Nat × Nat)) : body (.node b o (3, st) l r) = rend l 0 ++ wsL st ++ sepO st ++ wsL (st / 2) ++ rend r 0 := rfl

/-- the text of a tree opens with no bar -/
theorem head_rend (t : BT (Nat × Nat)) : ∀ (d ctx : Nat), good d t → ∀ l, headIs 124 (rend t ctx ++ l) = false := by
  induction t with
  | nil => intro d ctx h; exact h.elim
  | node b o a l r ihl ihr =>
    obtain ⟨k, st⟩ := a
    intro d ctx h x
    rw [rend_node]
    split
    · rfl
    · obtain ⟨_, h⟩ := h
      rcases h with rfl | ⟨_, ⟨rfl, hl⟩ | ⟨rfl | rfl, hl, hr⟩⟩
      · rw [body_0]; unfold nmL; (repeat' split) <;> rfl
      · rfl
      · rw [body_2]; simp only [List.append_assoc]; exact ihl _ 1 hl _
      · rw [body_3]; simp only [List.append_assoc]; exact ihl _ 0 hl _
theorem head_wsL (i : Nat) (l : List UInt8) (h : headIs 124 l = false) : headIs 124 (wsL i ++ l) = false := by
  unfold wsL; (repeat' split) <;> first | rfl | exact h

/-- THE LAW OF THE PARSER: the text of a tree is read as the tree's value, whatever stands around it -/
structure Reads (f d : Nat) (t : BT (Nat × Nat)) : Prop where
  n : ∀ u rest, ws u → stop rest = true → notF (Dn df) N f (u ++ (rend t 2 ++ rest)) = some (ev df t, rest)
  a : ∀ u rest n acc res, ws u → stop rest = true → andK (notF (Dn df) N f) n (acc && ev df t) rest = some res → andL (notF (Dn df) N f) (n + 2 ^ d) acc (u ++ (rend t 1 ++ rest)) = some res
  o : ∀ u rest n acc res, ws u → stop rest = true → endA rest → orK (andL (notF (Dn df) N f) N true) n (acc || ev df t) rest = some res → orL (andL (notF (Dn df) N f) N true) (n + 2 ^ d) acc (u ++ (rend t 0 ++ rest)) = some res

theorem pow_pos' (d : Nat) : 1 ≤ 2 ^ d := Nat.one_le_two_pow

/-- from the level of 'not' to that of 'and' -/
theorem up_a (nt : List UInt8 → Option (Bool × List UInt8)) (l rest : List UInt8) (b : Bool) (h : nt l = some (b, rest)) (d n : Nat) (acc : Bool) (res : Bool × List UInt8) (hk : andK nt n (acc && b) rest = some res) : andL nt (n + 2 ^ d) acc l = some res :=
  andL_mono nt (n + 1) _ _ _ _ (andL_one nt n acc b l rest res h hk) (by have := pow_pos' d; omega)
/-- from the level of 'and' to that of 'or' -/
theorem up_o (nt : List UInt8 → Option (Bool × List UInt8)) (l rest : List UInt8) (b : Bool) (d : Nat) (hN : 2 ^ d ≤ N) (hE : endA rest)
    (h : ∀ n acc res, andK nt n (acc && b) rest = some res → andL nt (n + 2 ^ d) acc l = some res) (n : Nat) (acc : Bool) (res : Bool × List UInt8) (hk : orK (andL nt N true) n (acc || b) rest = some res) : orL (andL nt N true) (n + 2 ^ d) acc l = some res := by
  have h1 : andL nt N true l = some (b, skip rest) := by
    have := h (N - 2 ^ d) true (b, skip rest) (by rw [andK_end _ _ _ _ hE]; simp)
    rwa [show N - 2 ^ d + 2 ^ d = N by omega] at this
  refine orL_mono _ (n + 1) _ _ _ _ (orL_one _ n acc b l (skip rest) res h1 ?_) (by have := pow_pos' d; omega)
  rw [orK_skip]; exact hk

theorem pow_up (d : Nat) (h : 0 < d) : 2 ^ d = 2 ^ (d - 1) + 2 ^ (d - 1) := by
  obtain ⟨e, rfl⟩ : ∃ e, d = e + 1 := ⟨d - 1, by omega⟩
  simp [Nat.pow_succ]; omega

theorem reads (t : BT (Nat × Nat)) : ∀ (d f : Nat), good d t → 2 * d + 2 ≤ f → 2 ^ d ≤ N → Reads df N f d t := by
  induction t with
  | nil => intro d f h; exact h.elim
  | node b o a l r ihl ihr =>
    obtain ⟨k, st⟩ := a
    intro d f hg hf hN
    obtain ⟨hst, hk⟩ := hg
    -- the body, at fuel g + 1
    have B0 : k ≤ 1 → ∀ g, 2 * d ≤ g → ∀ u rest, ws u → stop rest = true → notF (Dn df) N (g + 1) (u ++ (body (.node b o (k, st) l r) ++ rest)) = some (ev df (.node b o (k, st) l r), rest) := by
      intro hk1 g hg u rest hu hr
      rcases hk with rfl | ⟨hd, ⟨rfl, hl⟩ | ⟨rfl | rfl, hl, hr'⟩⟩
      · rw [body_0]; exact not_name df N g (st % 4) (Nat.mod_lt _ (by decide)) u rest hu hr
      · rw [body_1]
        have := (ihl (d - 1) g hl (by omega) (by have := pow_up d hd; omega)).n (wsL st) rest (ws_wsL _) hr
        have h2 := not_bang df N g u _ hu _ _ this
        simp only [List.append_assoc, List.cons_append, List.nil_append] at h2 ⊢
        exact h2
      · omega
      · omega
    have B1 : k ≤ 2 → ∀ g, 2 * d ≤ g → ∀ u rest n acc res, ws u → stop rest = true → andK (notF (Dn df) N (g + 1)) n (acc && ev df (.node b o (k, st) l r)) rest = some res →
        andL (notF (Dn df) N (g + 1)) (n + 2 ^ d) acc (u ++ (body (.node b o (k, st) l r) ++ rest)) = some res := by
      intro hk2 g hg u rest n acc res hu hr hres
      by_cases hk1 : k ≤ 1
      · exact up_a _ _ rest _ (B0 hk1 g hg u rest hu hr) d n acc res hres
      · obtain rfl : k = 2 := by omega
        rcases hk with h | ⟨hd, ⟨h, _⟩ | ⟨_, hl, hr'⟩⟩
        · omega
        · omega
        · have e : ev df (.node b o (2, st) l r) = (ev df l && ev df r) := rfl
          rw [e] at hres
          rw [body_2, pow_up d hd]
          have R := ihr (d - 1) (g + 1) hr' (by omega) (by have := pow_up d hd; omega)
          have L := ihl (d - 1) (g + 1) hl (by omega) (by have := pow_up d hd; omega)
          have h1 := R.a (wsL (st / 2)) rest n (acc && ev df l) res (ws_wsL _) hr (by rw [Bool.and_assoc]; exact hres)
          rw [← andK_sep (notF (Dn df) N (g + 1)) (n + 2 ^ (d - 1)) st _ (wsL st) _ (ws_wsL _)] at h1
          have h2 := L.a u _ (n + 2 ^ (d - 1)) acc res hu (stop_ws _ (stop_sepA _ _)) h1
          simp only [List.append_assoc] at h2 ⊢
          rw [← Nat.add_assoc]; exact h2
    have B2 : ∀ g, 2 * d ≤ g → ∀ u rest n acc res, ws u → stop rest = true → endA rest → orK (andL (notF (Dn df) N (g + 1)) N true) n (acc || ev df (.node b o (k, st) l r)) rest = some res →
        orL (andL (notF (Dn df) N (g + 1)) N true) (n + 2 ^ d) acc (u ++ (body (.node b o (k, st) l r) ++ rest)) = some res := by
      intro g hg u rest n acc res hu hr hE hres
      by_cases hk2 : k ≤ 2
      · exact up_o N _ _ rest _ d hN hE (fun n acc res h => B1 hk2 g hg u rest n acc res hu hr h) n acc res hres
      · rcases hk with h | ⟨hd, ⟨h, _⟩ | ⟨h | rfl, hl, hr'⟩⟩
        · omega
        · omega
        · omega
        · have e : ev df (.node b o (3, st) l r) = (ev df l || ev df r) := rfl
          rw [e] at hres
          rw [body_3, pow_up d hd]
          have R := ihr (d - 1) (g + 1) hr' (by omega) (by have := pow_up d hd; omega)
          have L := ihl (d - 1) (g + 1) hl (by omega) (by have := pow_up d hd; omega)
          have h1 := R.o (wsL (st / 2)) rest n (acc || ev df l) res (ws_wsL _) hr hE (by rw [Bool.or_assoc]; exact hres)
          rw [← orK_sep _ (n + 2 ^ (d - 1)) st _ (wsL st) _ (ws_wsL _) (head_wsL _ _ (head_rend r (d - 1) 0 hr' _))] at h1
          have h2 := L.o u _ (n + 2 ^ (d - 1)) acc res hu (stop_ws _ (stop_sepO _ _)) (endA_sepO _ _ _ (ws_wsL _)) h1
          simp only [List.append_assoc] at h2 ⊢
          rw [← Nat.add_assoc]; exact h2
    -- wrapped in brackets: an atom
    obtain ⟨g, rfl⟩ : ∃ g, f = g + 2 := ⟨f - 2, by omega⟩
    have W : ∀ u rest, ws u → notF (Dn df) N (g + 2) (u ++ ([40] ++ wsL (st / 4) ++ body (.node b o (k, st) l r) ++ wsL (st / 8) ++ [41] ++ rest)) = some (ev df (.node b o (k, st) l r), rest) := by
      intro u rest hu
      have hs : skip (wsL (st / 8) ++ 41 :: rest) = 41 :: rest := by rw [skip_ws (ws_wsL _)]; exact skip_cons (by decide) rest
      have h1 := B2 g (by omega) (wsL (st / 4)) (wsL (st / 8) ++ (41 :: rest)) (N - 2 ^ d) false (ev df (.node b o (k, st) l r), 41 :: rest) (ws_wsL _) (stop_ws _ rfl)
        (by unfold endA; rw [hs]; exact ⟨rfl, rfl⟩) (by rw [orK_end _ _ _ _ (by rw [hs]; rfl), hs, Bool.false_or])
      rw [show N - 2 ^ d + 2 ^ d = N by omega] at h1
      have h2 := not_paren df N (g + 1) u _ hu _ _ h1
      simp only [List.append_assoc, List.cons_append, List.nil_append] at h2 ⊢
      exact h2
    refine ⟨?_, ?_, ?_⟩
    · intro u rest hu hr
      rw [rend_node]
      split
      · exact W u rest hu
      · rename_i hw
        refine B0 ?_ (g + 1) (by omega) u rest hu hr
        simp [wrapB] at hw
        rcases hk with h | ⟨_, ⟨h, _⟩ | ⟨h | h, _⟩⟩ <;> omega
    · intro u rest n acc res hu hr hres
      rw [rend_node]
      split
      · exact up_a _ _ rest _ (W u rest hu) d n acc res hres
      · rename_i hw
        refine B1 ?_ (g + 1) (by omega) u rest n acc res hu hr hres
        simp [wrapB] at hw
        rcases hk with h | ⟨_, ⟨h, _⟩ | ⟨h | h, _⟩⟩ <;> omega
    · intro u rest n acc res hu hr hE hres
      rw [rend_node]
      split
      · exact up_o N _ _ rest _ d hN hE (fun n acc res h => up_a _ _ rest _ (W u rest hu) d n acc res h) n acc res hres
      · exact B2 (g + 1) (by omega) u rest n acc res hu hr hE hres

/-- the whole text, or what stands between two brackets: at the level of 'or' -/
theorem whole (t : BT (Nat × Nat)) (d f : Nat) (hg : good d t) (hf : 2 * d + 2 ≤ f) (hN : 2 ^ d ≤ N) (u v : List UInt8) (hu : ws u) (rest : List UInt8) (hv : skip v = rest) (hs : stop v = true) (hr : rest = [] ∨ ∃ x, rest = 41 :: x) :
    orL (andL (notF (Dn df) N f) N true) N false (u ++ (rend t 0 ++ v)) = some (ev df t, rest) := by
  have R := reads df N t d f hg hf hN
  have h1 := R.o u v (N - 2 ^ d) false (ev df t, rest) hu hs
    (by unfold endA; rw [hv]; rcases hr with rfl | ⟨x, rfl⟩ <;> exact ⟨rfl, rfl⟩)
    (by rw [orK_end _ _ _ _ (by rw [hv]; rcases hr with rfl | ⟨x, rfl⟩ <;> rfl), hv, Bool.false_or])
  rwa [show N - 2 ^ d + 2 ^ d = N by omega] at h1

theorem len_ws (i : Nat) : (wsL i).length ≤ 2 := by unfold wsL; (repeat' split) <;> decide
theorem len_nm (i : Nat) : (nmL i).length ≤ 5 := by unfold nmL; (repeat' split) <;> decide
theorem len_rend (t : BT (Nat × Nat)) : ∀ (d ctx : Nat), good d t → (rend t ctx).length + 12 ≤ 23 * 2 ^ d := by
  induction t with
  | nil => intro d ctx h; exact h.elim
  | node b o a l r ihl ihr =>
    obtain ⟨k, st⟩ := a
    intro d ctx h
    have p1 := pow_pos' d
    have w1 := len_ws st
    have w2 := len_ws (st / 2)
    have w4 := len_ws (st / 4)
    have w8 := len_ws (st / 8)
    have nn := len_nm (st % 4)
    have sa : (sepA st).length ≤ 2 := by unfold sepA; split <;> decide
    have so : (sepO st).length ≤ 2 := by unfold sepO; split <;> decide
    have hb : (body (.node b o (k, st) l r)).length + 18 ≤ 23 * 2 ^ d := by
      obtain ⟨_, h⟩ := h
      rcases h with rfl | ⟨hd, ⟨rfl, hl⟩ | ⟨rfl | rfl, hl, hr⟩⟩
      · rw [body_0]; omega
      · have i1 := ihl (d - 1) 2 hl
        have := pow_up d hd
        have := pow_pos' (d - 1)
        rw [body_1]; simp only [List.length_append, List.length_cons, List.length_nil]; omega
      · have i1 := ihl (d - 1) 1 hl
        have i2 := ihr (d - 1) 1 hr
        have := pow_up d hd
        rw [body_2]; simp only [List.length_append]; omega
      · have i1 := ihl (d - 1) 0 hl
        have i2 := ihr (d - 1) 0 hr
        have := pow_up d hd
        rw [body_3]; simp only [List.length_append]; omega
    rw [rend_node]
    split
    · simp only [List.length_append, List.length_cons, List.length_nil]; omega
    · omega

end
end Go.Proofs.YbulkfrueFmt.Pl
