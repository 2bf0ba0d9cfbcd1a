import Derived.Test.YboneseleGreatFmtPl
/-
  THE PLAIN LAW: the flat expression's text is read as its or-of-ands value.
-/
namespace Go.Proofs.YboneseleGreatFmt.Pl

def nmC (k : Nat) : List UInt8 := if k = 0 then [97] else if k = 1 then [98] else if k = 2 then [99] else if k = 3 then [108, 105, 110, 117, 120] else [97, 110, 121, 95, 49]
def opC (o : Nat) : List UInt8 := if o = 0 then [46] else if o = 1 then [38] else if o = 2 then [124] else [124, 124]
def pre : List UInt8 := [100, 101, 102, 97, 117, 108, 116, 58]
/-- a term's name as written -/
def full (t : Nat) : List UInt8 := (if t / 15 % 2 = 1 then pre else []) ++ nmC (t % 5)
def tx (t : Nat) : List UInt8 := List.replicate (t / 5 % 3) 33 ++ full t
def sp (s : Nat) : List UInt8 := (if s / 16 % 2 = 1 then [32] else []) ++ (opC (s % 4) ++ (if s / 32 % 2 = 1 then [9] else []))
def val (vk : Nat → Bool) (t : Nat) : Bool := if t / 5 % 3 % 2 = 1 then !vk (t % 5) else vk (t % 5)
def tail (L : List (Nat × Nat)) : List UInt8 := L.flatMap fun p => sp p.1 ++ tx p.2
def fin (vk : Nat → Bool) : Bool → Bool → List (Nat × Nat) → Bool
  | r, g, [] => r || g
  | r, g, p :: L => if 2 ≤ p.1 % 4 then fin vk (r || g) (val vk p.2) L else fin vk r (g && val vk p.2) L

/-- what may follow a name -/
def stop : List UInt8 → Bool
  | [] => true
  | c :: _ => c == 32 || c == 46 || c == 38 || c == 124 || c == 41
theorem stop_cases {l : List UInt8} (h : stop l = true) : l = [] ∨ ∃ c t, l = c :: t ∧ (c = 32 ∨ c = 46 ∨ c = 38 ∨ c = 124 ∨ c = 41) := by
  cases l with
  | nil => exact Or.inl rfl
  | cons c t =>
    refine Or.inr ⟨c, t, rfl, ?_⟩
    simp only [stop, Bool.or_eq_true, beq_iff_eq] at h
    rcases h with (((h | h) | h) | h) | h <;> simp [h]
theorem nameLen_stop {l : List UInt8} (h : stop l = true) (st : Bool) : nameLen st l = 0 := by
  rcases stop_cases h with rfl | ⟨c, t, rfl, hc⟩
  · cases st <;> rfl
  · rcases hc with rfl | rfl | rfl | rfl | rfl <;> rfl
theorem stop_not36 {l : List UInt8} (h : stop l = true) : headIs 36 l = false := by
  rcases stop_cases h with rfl | ⟨c, t, rfl, hc⟩
  · rfl
  · rcases hc with rfl | rfl | rfl | rfl | rfl <;> rfl

/-- a name, from its first byte on ('st': some byte has been read) -/
def okN : Bool → List UInt8 → Bool
  | _, [] => true
  | st, c :: t => (isNm c || (c == 58 && st && headNm t)) && okN true t
theorem headNm_app {t : List UInt8} (h : headNm t = true) (l : List UInt8) : headNm (t ++ l) = true := by
  cases t with
  | nil => cases h
  | cons c u => exact h
theorem nameLen_app (nm l : List UInt8) (hl : stop l = true) (st : Bool) (h : okN st nm = true) : nameLen st (nm ++ l) = nm.length := by
  induction nm generalizing st with
  | nil => exact nameLen_stop hl st
  | cons c t ih =>
    simp only [okN, Bool.and_eq_true, Bool.or_eq_true] at h
    have ht := ih true h.2
    cases hc : isNm c with
    | true => simp [nameLen, hc, ht]
    | false =>
      rcases h.1 with h1 | ⟨⟨h1, h2⟩, h3⟩
      · rw [hc] at h1; cases h1
      · have := headNm_app h3 l
        simp [nameLen, hc, h1, h2, this, ht]

theorem full_ok (t : Nat) : okN false (full t) = true := by
  unfold full nmC
  (repeat' split) <;> decide
theorem full_head (t : Nat) : ∃ c x, full t = c :: x ∧ isWs c = false ∧ (c == 33) = false ∧ (c == 40) = false := by
  unfold full nmC
  (repeat' split) <;> exact ⟨_, _, rfl, by decide⟩
theorem full_len (t : Nat) : (full t).length ≤ 13 := by
  unfold full nmC pre
  (repeat' split) <;> decide

section
variable (D : List UInt8 → Option Bool) (vk : Nat → Bool) (N : Nat)

theorem not_name (hD : ∀ t, D (full t) = some (vk (t % 5))) (f t : Nat) (u rest : List UInt8) (hu : ws u) (hr : stop rest = true) : notF D N (f + 1) (u ++ (full t ++ rest)) = some (vk (t % 5), rest) := by
  obtain ⟨c, x, e, h1, h2, h3⟩ := full_head t
  have hs : skip (u ++ (full t ++ rest)) = full t ++ rest := by
    rw [skip_ws hu, e, List.cons_append, skip_cons h1]
  have hn := nameLen_app (full t) rest hr false (full_ok t)
  have hl : (full t).length ≠ 0 := by rw [e]; simp
  have a1 : headIs 33 (full t ++ rest) = false := by rw [e]; exact h2
  have a2 : headIs 40 (full t ++ rest) = false := by rw [e]; exact h3
  simp only [notF, hs, hn, a1, a2, Bool.false_eq_true, if_false, hl, List.drop_left, List.take_left, stop_not36 hr, hD t]

theorem not_bang (f : Nat) (u l : List UInt8) (hu : ws u) (b : Bool) (r : List UInt8) (h : notF D N f l = some (b, r)) : notF D N (f + 1) (u ++ (33 :: l)) = some (!b, r) := by
  have hs : skip (u ++ (33 :: l)) = 33 :: l := by rw [skip_ws hu, skip_cons (by decide)]
  simp [notF, hs, headIs, h]

theorem not_term (hD : ∀ t, D (full t) = some (vk (t % 5))) (t : Nat) (u rest : List UInt8) (hu : ws u) (hr : stop rest = true) : notF D N 3 (u ++ (tx t ++ rest)) = some (val vk t, rest) := by
  unfold tx val
  rcases (show t / 5 % 3 = 0 ∨ t / 5 % 3 = 1 ∨ t / 5 % 3 = 2 by omega) with h | h | h
  · rw [h]
    simp only [List.replicate, List.nil_append]
    exact not_name D vk N hD 2 t u rest hu hr
  · rw [h]
    have h1 := not_name D vk N hD 1 t [] rest ws_nil hr
    have h2 := not_bang D N 2 u _ hu _ _ h1
    simpa using h2
  · rw [h]
    have h1 := not_name D vk N hD 0 t [] rest ws_nil hr
    have h2 := not_bang D N 1 [] _ ws_nil _ _ h1
    have h3 := not_bang D N 2 u _ hu _ _ h2
    simpa using h3

/-- what follows a term of an or-chain -/
def orK (an : List UInt8 → Option (Bool × List UInt8)) (n : Nat) (acc : Bool) (r : List UInt8) : Option (Bool × List UInt8) :=
  if headIs 124 (skip r) then (if headIs 124 (skip r).tail then orL an n acc (skip r).tail.tail else orL an n acc (skip r).tail) else some (acc, skip r)

/-- an operator and what stands around it -/
theorem sp_skip (s : Nat) (l : List UInt8) : skip (sp s ++ l) = opC (s % 4) ++ ((if s / 32 % 2 = 1 then [9] else []) ++ l) := by
  have hw : ws (if s / 16 % 2 = 1 then [32] else []) := by
    split
    · intro c h; simp at h; subst h; rfl
    · exact ws_nil
  unfold sp
  rw [List.append_assoc, skip_ws hw, List.append_assoc]
  unfold opC
  (repeat' split) <;> exact skip_cons (by decide) _
theorem sp_stop (s : Nat) (l : List UInt8) : stop (sp s ++ l) = true := by
  unfold sp opC
  (repeat' split) <;> rfl
theorem ws_tab (s : Nat) : ws (if s / 32 % 2 = 1 then [9] else []) := by
  split
  · intro c h; simp at h; subst h; rfl
  · exact ws_nil
theorem tail_stop (L : List (Nat × Nat)) (rest : List UInt8) (hr : stop rest = true) : stop (tail L ++ rest) = true := by
  cases L with
  | nil => exact hr
  | cons p L =>
    show stop ((sp p.1 ++ tx p.2 ++ tail L) ++ rest) = true
    rw [List.append_assoc, List.append_assoc]
    exact sp_stop _ _
theorem tx_head (t : Nat) (l : List UInt8) : headIs 124 (tx t ++ l) = false := by
  unfold tx full nmC pre
  rcases (show t / 5 % 3 = 0 ∨ t / 5 % 3 = 1 ∨ t / 5 % 3 = 2 by omega) with h | h | h
  all_goals
    rw [h]
    (repeat' split) <;> rfl

/-- THE LAW: from a term on, inside an and-chain inside an or-chain -/
theorem chain (hD : ∀ t, D (full t) = some (vk (t % 5))) (rest : List UInt8) (hr : rest = [] ∨ ∃ x, rest = 41 :: x) (L : List (Nat × Nat)) : ∀ (r g : Bool) (t n m : Nat) (u : List UInt8), ws u → L.length + 1 ≤ n → L.length + 1 ≤ m → L.length + 1 ≤ N →
    ∃ b x, andL (notF D N 3) n g (u ++ (tx t ++ (tail L ++ rest))) = some (b, x) ∧ orK (andL (notF D N 3) N true) m (r || b) x = some (fin vk r (g && val vk t) L, rest) := by
  have hs : skip rest = rest := by
    rcases hr with rfl | ⟨x, rfl⟩
    · rfl
    · exact skip_cons (by decide) x
  have hst : stop rest = true := by rcases hr with rfl | ⟨x, rfl⟩ <;> rfl
  induction L with
  | nil =>
    intro r g t n m u hu hn hm hN
    obtain ⟨n, rfl⟩ : ∃ k, n = k + 1 := ⟨n - 1, by simp at hn; omega⟩
    refine ⟨g && val vk t, rest, ?_, ?_⟩
    · have := not_term D vk N hD t u rest hu hst
      show andL (notF D N 3) (n + 1) g (u ++ (tx t ++ rest)) = _
      unfold andL
      rw [this]
      simp only [hs]
      rcases hr with rfl | ⟨x, rfl⟩ <;> rfl
    · unfold orK
      rw [hs]
      rcases hr with rfl | ⟨x, rfl⟩ <;> rfl
  | cons p L ih =>
    intro r g t n m u hu hn hm hN
    simp only [List.length_cons] at hn hm hN
    obtain ⟨n, rfl⟩ : ∃ k, n = k + 1 := ⟨n - 1, by omega⟩
    obtain ⟨m, rfl⟩ : ∃ k, m = k + 1 := ⟨m - 1, by omega⟩
    obtain ⟨s, t2⟩ := p
    have e0 : tail ((s, t2) :: L) ++ rest = sp s ++ (tx t2 ++ (tail L ++ rest)) := by
      show (sp s ++ tx t2 ++ tail L) ++ rest = _
      simp only [List.append_assoc]
    have hn1 := not_term D vk N hD t u (sp s ++ (tx t2 ++ (tail L ++ rest))) hu (sp_stop _ _)
    have hsk := sp_skip s (tx t2 ++ (tail L ++ rest))
    rw [e0]
    have hfin : fin vk r (g && val vk t) ((s, t2) :: L) = if 2 ≤ s % 4 then fin vk (r || (g && val vk t)) (val vk t2) L else fin vk r ((g && val vk t) && val vk t2) L := rfl
    rw [hfin]
    rcases (show s % 4 = 0 ∨ s % 4 = 1 ∨ s % 4 = 2 ∨ s % 4 = 3 by omega) with h | h | h | h
    · rw [if_neg (by omega)]
      obtain ⟨b, x, h1, h2⟩ := ih r (g && val vk t) t2 n (m + 1) _ (ws_tab s) (by omega) (by omega) (by omega)
      refine ⟨b, x, ?_, h2⟩
      have e1 : opC (s % 4) = [46] := by rw [h]; rfl
      rw [e1] at hsk
      unfold andL
      rw [hn1]
      simp only [hsk]
      exact h1
    · rw [if_neg (by omega)]
      obtain ⟨b, x, h1, h2⟩ := ih r (g && val vk t) t2 n (m + 1) _ (ws_tab s) (by omega) (by omega) (by omega)
      refine ⟨b, x, ?_, h2⟩
      have e1 : opC (s % 4) = [38] := by rw [h]; rfl
      rw [e1] at hsk
      unfold andL
      rw [hn1]
      simp only [hsk]
      exact h1
    · rw [if_pos (by omega)]
      obtain ⟨b, x, h1, h2⟩ := ih (r || (g && val vk t)) true t2 N m _ (ws_tab s) (by omega) (by omega) (by omega)
      rw [Bool.true_and] at h2
      have e1 : opC (s % 4) = [124] := by rw [h]; rfl
      rw [e1] at hsk
      refine ⟨g && val vk t, skip (sp s ++ (tx t2 ++ (tail L ++ rest))), ?_, ?_⟩
      · unfold andL
        rw [hn1]
        simp only [hsk]
        rfl
      · unfold orK
        rw [skip_skip, hsk]
        have hb : headIs 124 ((if s / 32 % 2 = 1 then [9] else []) ++ (tx t2 ++ (tail L ++ rest))) = false := by
          split
          · rfl
          · exact tx_head _ _
        rw [if_pos (show headIs 124 ([124] ++ ((if s / 32 % 2 = 1 then [9] else []) ++ (tx t2 ++ (tail L ++ rest)))) = true from rfl)]
        rw [if_neg (by show ¬ headIs 124 ((if s / 32 % 2 = 1 then [9] else []) ++ (tx t2 ++ (tail L ++ rest))) = true; rw [hb]; decide)]
        show orL (andL (notF D N 3) N true) (m + 1) _ ((if s / 32 % 2 = 1 then [9] else []) ++ (tx t2 ++ (tail L ++ rest))) = _
        unfold orL
        rw [h1]
        exact h2
    · rw [if_pos (by omega)]
      obtain ⟨b, x, h1, h2⟩ := ih (r || (g && val vk t)) true t2 N m _ (ws_tab s) (by omega) (by omega) (by omega)
      rw [Bool.true_and] at h2
      have e1 : opC (s % 4) = [124, 124] := by rw [h]; rfl
      rw [e1] at hsk
      refine ⟨g && val vk t, skip (sp s ++ (tx t2 ++ (tail L ++ rest))), ?_, ?_⟩
      · unfold andL
        rw [hn1]
        simp only [hsk]
        rfl
      · unfold orK
        rw [skip_skip, hsk]
        rw [if_pos (show headIs 124 ([124, 124] ++ ((if s / 32 % 2 = 1 then [9] else []) ++ (tx t2 ++ (tail L ++ rest)))) = true from rfl), if_pos (show headIs 124 (List.tail ([124, 124] ++ ((if s / 32 % 2 = 1 then [9] else []) ++ (tx t2 ++ (tail L ++ rest))))) = true from rfl)]
        show orL (andL (notF D N 3) N true) (m + 1) _ ((if s / 32 % 2 = 1 then [9] else []) ++ (tx t2 ++ (tail L ++ rest))) = _
        unfold orL
        rw [h1]
        exact h2

theorem whole (hD : ∀ t, D (full t) = some (vk (t % 5))) (t : Nat) (L : List (Nat × Nat)) (rest : List UInt8) (hr : rest = [] ∨ ∃ x, rest = 41 :: x) (hN : L.length + 2 ≤ N) :
    orL (andL (notF D N 3) N true) N false (tx t ++ tail L ++ rest) = some (fin vk false (val vk t) L, rest) := by
  obtain ⟨N', rfl⟩ : ∃ k, N = k + 1 := ⟨N - 1, by omega⟩
  obtain ⟨b, x, h1, h2⟩ := chain D vk (N' + 1) hD rest hr L false true t (N' + 1) N' [] ws_nil (by omega) (by omega) (by omega)
  rw [Bool.true_and] at h2
  rw [List.append_assoc]
  unfold orL
  rw [show andL (notF D (N' + 1) 3) (N' + 1) true (tx t ++ (tail L ++ rest)) = some (b, x) from h1]
  exact h2

theorem tx_len (t : Nat) : (tx t).length ≤ 15 := by
  have := full_len t
  unfold tx
  simp only [List.length_append, List.length_replicate]
  omega
theorem sp_len (s : Nat) : (sp s).length ≤ 4 := by
  unfold sp opC
  (repeat' split) <;> decide
theorem tail_len (L : List (Nat × Nat)) : (tail L).length ≤ 19 * L.length := by
  induction L with
  | nil => exact Nat.le_refl _
  | cons p L ih =>
    show (sp p.1 ++ tx p.2 ++ tail L).length ≤ _
    have h1 := tx_len p.2
    have h2 := sp_len p.1
    simp only [List.length_append, List.length_cons]
    omega
theorem tail_snoc (L : List (Nat × Nat)) (p : Nat × Nat) : tail (L ++ [p]) = tail L ++ (sp p.1 ++ tx p.2) := by
  unfold tail
  rw [List.flatMap_append]
  simp
/-- the two accumulators of the Go text -/
def acc (vk : Nat → Bool) : Bool → Bool → List (Nat × Nat) → Bool × Bool
  | r, g, [] => (r, g)
  | r, g, p :: L => if 2 ≤ p.1 % 4 then acc vk (r || g) (val vk p.2) L else acc vk r (g && val vk p.2) L
theorem fin_acc (r g : Bool) (L : List (Nat × Nat)) : fin vk r g L = ((acc vk r g L).1 || (acc vk r g L).2) := by
  induction L generalizing r g with
  | nil => rfl
  | cons p L ih =>
    unfold fin acc
    split
    · exact ih _ _
    · exact ih _ _
theorem acc_snoc (r g : Bool) (L : List (Nat × Nat)) (p : Nat × Nat) : acc vk r g (L ++ [p]) = if 2 ≤ p.1 % 4 then ((acc vk r g L).1 || (acc vk r g L).2, val vk p.2) else ((acc vk r g L).1, (acc vk r g L).2 && val vk p.2) := by
  induction L generalizing r g with
  | nil => rfl
  | cons q L ih =>
    show (if 2 ≤ q.1 % 4 then acc vk (r || g) (val vk q.2) (L ++ [p]) else acc vk r (g && val vk q.2) (L ++ [p])) = _
    have e : acc vk r g (q :: L) = if 2 ≤ q.1 % 4 then acc vk (r || g) (val vk q.2) L else acc vk r (g && val vk q.2) L := rfl
    rw [e]
    split
    · exact ih _ _
    · exact ih _ _
end
end Go.Proofs.YboneseleGreatFmt.Pl
