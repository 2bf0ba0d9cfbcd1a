import Derived.Test.YboneseleGreatFmtW6
/-
  THE PARSER's METHODS: what 'not', 'and', 'or' are asked for ('NotC', 'AndC'), and the walk of 'and' and of 'or'.
-/
namespace Go.Proofs.YboneseleGreatFmt
open Go.RowKit

/-- what a method of the parser leaves -/
def Got (eb : Nat) (E : World → Prop) (b : Nat) (s : ByteArray) (i d : Nat) (bv : Bool) (rest : List UInt8) (w : World) (e : Ending) (w' : World) : Prop :=
  ∃ v F j, e = .returned v ∧ Keep b w w' ∧ j ≤ s.size ∧ i < j ∧ rst s j = rest ∧ PB w' b s j d (.pointer none) ∧ Den eb E F w' v bv ∧ ∀ k, k ∈ F → w.heap.size ≤ k

def NotC (eb : Nat) (D : List UInt8 → Option Bool) (E : World → Prop) (N f : Nat) : Prop := ∀ (w : World) (b : Nat) (s : ByteArray) (i d : Nat) (bv : Bool) (rest : List UInt8), PB w b s i d (.pointer none) → i ≤ s.size → s.size ≤ 1073741824 → d + f ≤ 1000 →
  Pl.notF (D) N f (rst s i) = some (bv, rest) → Calls Ybgs.prog 20 #[.pointer (some ⟨b, 0, none⟩)] w (Got eb E b s i d bv rest w)
def AndC (eb : Nat) (D : List UInt8 → Option Bool) (E : World → Prop) (N f : Nat) : Prop := ∀ (w : World) (b : Nat) (s : ByteArray) (i d : Nat) (bv : Bool) (rest : List UInt8), PB w b s i d (.pointer none) → i ≤ s.size → s.size ≤ 1073741824 → d + f ≤ 1000 →
  Pl.andL (Pl.notF (D) N f) N true (rst s i) = some (bv, rest) → Calls Ybgs.prog 17 #[.pointer (some ⟨b, 0, none⟩)] w (Got eb E b s i d bv rest w)

theorem Ybgs.info81 : (Ybgs.prog.info? 81).map (fun i => (i.zero, i.size, i.bytes)) = some (some .nilIface, 1, 16) := by kernel_rfl

/-- the terms gathered so far -/
structure Sofar (eb : Nat) (E : World → Prop) (b base : Nat) (w wr : World) (v : Value) (F : List Nat) (ps : List (Value × Bool)) : Prop where
  own : wr.ownsRow base 81 1 v ps.length (ps.map (·.1))
  keep : Keep b w wr
  den : ∀ p, p ∈ ps → Den eb E F wr p.1 p.2
  lo : ∀ k, k ∈ F → base ≤ k ∧ k < wr.heap.size ∧ some k ≠ v.ownBlock

theorem Sofar.step {eb b base : Nat} {E : World → Prop} {w wr w1 w2 : World} {v v' v1 : Value} {F F1 : List Nat} {ps : List (Value × Bool)} {b1 : Bool} {o : Obj} (hbase : b < base) (hbw : base = w.heap.size)
    (h : Sofar eb E b base w wr v F ps) (hk : Keep b wr w1) (hd : Den eb E F1 w1 v1 b1) (hlo : ∀ k, k ∈ F1 → wr.heap.size ≤ k)
    (hown : w2.ownsRow base 81 1 v' (ps.length + 1) (ps.map (·.1) ++ [v1])) (hg : (w1.alloc o).grownBy w2 v.ownBlock) (hw : v'.ownBlock = v.ownBlock ∨ v'.ownBlock = some (w1.heap.size + 1)) :
    Sofar eb E b base w w2 v' (F ++ F1) (ps ++ [(v1, b1)]) := by
  have hlt := h.own.lt
  have hs1 := hk.size
  have hs2 := hg.size
  rw [World.size_alloc] at hs2
  have hws := h.keep.size
  have blk : ∀ k, k < w1.heap.size → some k ≠ v.ownBlock → w2.heap[k]? = w1.heap[k]? := fun k hk' he => by
    rw [hg.block k (by rw [World.size_alloc]; omega) he, Below.heap_alloc _ _ _ hk']
  have h1 : ∀ k, k ∈ F → w2.heap[k]? = wr.heap[k]? := fun k hk' => by
    obtain ⟨q1, q2, q3⟩ := h.lo k hk'
    rw [blk k (by omega) q3, hk.block k q2 (by omega)]
  have h2 : ∀ k, k ∈ F1 → w2.heap[k]? = w1.heap[k]? := fun k hk' => by
    have q1 := hlo k hk'
    have q2 := hd.1 k hk'
    exact blk k q2 (fun he => by have := hlt k he.symm; omega)
  have hall : ∀ k, k ∈ F ++ F1 → base ≤ k ∧ k < w2.heap.size ∧ k < w1.heap.size ∧ some k ≠ v.ownBlock := fun k hk' => by
    rcases List.mem_append.1 hk' with q | q
    · obtain ⟨q1, q2, q3⟩ := h.lo k q
      exact ⟨q1, by omega, by omega, q3⟩
    · have q1 := hlo k q
      have q2 := hd.1 k q
      exact ⟨by omega, by omega, q2, fun he => by have := hlt k he.symm; omega⟩
  refine ⟨by simpa using hown, ?_, ?_, ?_⟩
  · exact ((h.keep.trans hk).alloc o).grown hg (fun k hk' => by have := hlt k hk'; omega)
  · intro p hp
    rcases List.mem_append.1 hp with q | q
    · exact ((h.den p q).later (by omega) h1).more (fun k hk' => List.mem_append.2 (Or.inl hk')) (fun k hk' => (hall k hk').2.1)
    · simp only [List.mem_singleton] at q
      subst q
      exact (hd.later (by omega) h2).more (fun k hk' => List.mem_append.2 (Or.inr hk')) (fun k hk' => (hall k hk').2.1)
  · intro k hk'
    obtain ⟨q1, q2, q3, q4⟩ := hall k hk'
    refine ⟨q1, q2, fun he => ?_⟩
    rcases hw with hw | hw
    · exact q4 (he.trans hw)
    · rw [hw] at he; injection he with he; omega

theorem Sofar.pb {eb b base : Nat} {E : World → Prop} {w wr w1 w2 : World} {v : Value} {F : List Nat} {ps : List (Value × Bool)} {o : Obj} (hbase : b < base) (h : Sofar eb E b base w wr v F ps)
    (hg : (w1.alloc o).grownBy w2 v.ownBlock) {s : ByteArray} {j d : Nat} {er : Value} (hp : PB w1 b s j d er) : PB w2 b s j d er := by
  unfold PB
  have hlt := hp.lt
  rw [hg.block b (by rw [World.size_alloc]; omega) (fun he => by have := h.own.lt b he.symm; omega), Below.heap_alloc _ _ _ hlt]
  exact hp

theorem tok_cons (c : UInt8) (t : List UInt8) : tok (c :: t) = if c == 124 && Pl.headIs 124 t then [124, 124] else [c] := rfl
theorem tok_c (q : UInt8) (hq : (124 == q) = false) (l : List UInt8) : ((mk (tok l)).toList == [q]) = Pl.headIs q l := by
  rw [Lib.toList_data, mk_data]
  match l with
  | [] => rfl
  | c :: t =>
    rw [tok_cons]
    cases h : (c == 124 && Pl.headIs 124 t)
    · simp [Pl.headIs]
    · have h1 : c = 124 := by simp at h; exact h.1
      rw [h1]
      simp [Pl.headIs, hq]
theorem tok_46 (l : List UInt8) : ((mk (tok l)).toList == [46]) = Pl.headIs 46 l := tok_c 46 (by decide) l
theorem tok_38 (l : List UInt8) : ((mk (tok l)).toList == [38]) = Pl.headIs 38 l := tok_c 38 (by decide) l

theorem Sofar.later {eb b base : Nat} {E : World → Prop} {w w2 w3 : World} {v : Value} {F : List Nat} {ps : List (Value × Bool)} (hbase : b < base) (h : Sofar eb E b base w w2 v F ps) (hk : Keep b w2 w3) : Sofar eb E b base w w3 v F ps := by
  refine ⟨ownsRow_keep h.own hk hbase, h.keep.trans hk, fun p hp => (h.den p hp).later hk.size (fun k hk' => ?_), fun k hk' => ?_⟩
  · obtain ⟨q1, q2, q3⟩ := h.lo k hk'
    exact hk.block k q2 (by omega)
  · obtain ⟨q1, q2, q3⟩ := h.lo k hk'
    exact ⟨q1, Nat.lt_of_lt_of_le q2 hk.size, q3⟩

theorem Sofar.terms {eb b base : Nat} {E : World → Prop} {w w3 : World} {g n cap : Nat} {F : List Nat} {ps : List (Value × Bool)} (h : Sofar eb E b base w w3 (.slice (some ⟨g, 0, none⟩) n cap) F ps) (hl : ps.length ≤ 1073741824) : Terms eb E (g :: F) g w3 ps := by
  have hlt := h.own.lt g rfl
  refine ⟨by simp, hl, fun k p hp => ?_, fun p hp => (h.den p hp).more (fun k hk => by simp [hk]) (fun k hk => ?_)⟩
  · have := h.own.cells (g := g) rfl k p.1 (by rw [List.getElem?_map, hp]; rfl)
    rw [Addr.add_lit] at this
    simpa using this
  · rcases List.mem_cons.1 hk with rfl | hk
    · exact hlt.2
    · exact (h.lo k hk).2.1

theorem skip_len (l : List UInt8) : (Pl.skip l).length ≤ l.length := by
  induction l with
  | nil => exact Nat.le_refl _
  | cons c t ih =>
    unfold Pl.skip
    split
    · simp only [List.length_cons]; omega
    · exact Nat.le_refl _
theorem rst_len (s : ByteArray) (j : Nat) : (rst s j).length = s.size - j := by unfold rst; rw [List.length_drop, ← size_len]
theorem skip_pos {s : ByteArray} {j1 j2 : Nat} (h : rst s j2 = Pl.skip (rst s j1)) (h1 : j1 ≤ s.size) (h2 : j2 ≤ s.size) : j1 ≤ j2 := by
  have := skip_len (rst s j1)
  rw [← h, rst_len, rst_len] at this
  omega
theorem head_lt {s : ByteArray} {j : Nat} {c : UInt8} (h : Pl.headIs c (rst s j) = true) : j < s.size := by
  rcases Nat.lt_or_ge j s.size with q | q
  · exact q
  · rw [rst_end s j q] at h; cases h
theorem rst_tail (s : ByteArray) (j : Nat) : (rst s j).tail = rst s (j + 1) := by unfold rst; rw [List.tail_drop]

/-- the loop goes on behind an operator of one byte -/
theorem and_on {nt : List UInt8 → Option (Bool × List UInt8)} {n : Nat} {ps : List (Value × Bool)} {b1 : Bool} {r1 : List UInt8} {v : Value} {res : Bool × List UInt8} {s : ByteArray} {j2 : Nat} (hr : rst s j2 = Pl.skip r1)
    (h : (if Pl.headIs 46 (Pl.skip r1) || Pl.headIs 38 (Pl.skip r1) then Pl.andL nt n (ps.all (·.2) && b1) (Pl.skip r1).tail else some (ps.all (·.2) && b1, Pl.skip r1)) = some res)
    (hc : (Pl.headIs 46 (Pl.skip r1) || Pl.headIs 38 (Pl.skip r1)) = true) : Pl.andL nt n ((ps ++ [(v, b1)]).all (·.2)) (rst s (j2 + 1)) = some res := by
  rw [if_pos hc] at h
  rw [← rst_tail, hr, List.all_append]
  simpa using h
theorem and_off {nt : List UInt8 → Option (Bool × List UInt8)} {n : Nat} {ps : List (Value × Bool)} {b1 bv : Bool} {r1 rest : List UInt8} {v : Value}
    (h : (if Pl.headIs 46 (Pl.skip r1) || Pl.headIs 38 (Pl.skip r1) then Pl.andL nt n (ps.all (·.2) && b1) (Pl.skip r1).tail else some (ps.all (·.2) && b1, Pl.skip r1)) = some (bv, rest))
    (h46 : Pl.headIs 46 (Pl.skip r1) = false) (h38 : Pl.headIs 38 (Pl.skip r1) = false) : (ps ++ [(v, b1)]).all (·.2) = bv ∧ Pl.skip r1 = rest := by
  rw [h46, h38] at h
  simp only [Bool.or_self, Bool.false_eq_true, if_false, Option.some.injEq, Prod.mk.injEq] at h
  refine ⟨?_, h.2⟩
  rw [List.all_append, ← h.1]; simp

set_option maxRecDepth 100000 in
set_option maxHeartbeats 1000000 in
theorem and_any (eb : Nat) (D : List UInt8 → Option Bool) (E : World → Prop) (N f : Nat) (hC : Cls eb D E) (hN : NotC eb D E N f) : AndC eb D E N f := by
  intro w b s i d bv rest hb hi hs hd hA
  obtain ⟨i0, hi0, hz0, hz1, hz2⟩ := info_parts Ybgs.info81
  have HN : Hid (NotC eb D E N f) := hN
  have HA : Hid (Pl.andL (Pl.notF (D) N f) N true (rst s i) = some (bv, rest)) := hA
  have HI0 : Hid (Ybgs.prog.info? 81 = some i0) := hi0
  have HZ0 : Hid (i0.zero = _) := hz0
  have HZ1 : Hid (i0.size = _) := hz1
  have HZ2 : Hid (i0.bytes = _) := hz2
  have hbs := hb.lt
  have HCC : Hid (Cls eb D E) := hC
  clear hN hA hi0 hz0 hz1 hz2 hC
  go_enter Ybgs.func17, Ybgs.ntmps17
  go_wp2_with fail
  go_loopg [3] N (fun n v wr => ∃ F ps j, Sofar eb E b w.heap.size w wr v F ps ∧ PB wr b s j d (.pointer none) ∧ i ≤ j ∧ j ≤ s.size ∧ ps.length ≤ j ∧ Pl.andL (Pl.notF (D) N f) n (ps.all (·.2)) (rst s j) = some (bv, rest))
  case atStart => exact ⟨[], [], i, ⟨World.ownsRow_nil _ _ _ _, Keep.refl _ _, fun p hp => (List.not_mem_nil hp).elim, fun p hp => (List.not_mem_nil hp).elim⟩, hb, Nat.le_refl _, hi, Nat.zero_le _, HA.out⟩
  case round =>
    obtain ⟨F, ps, j, hS, hp, hij, hj, hlen, hL⟩ := hrel
    have HS : Hid (Sofar eb E b w.heap.size w wr _ F ps) := hS
    have HP : Hid (PB wr b s j d (.pointer none)) := hp
    cases gk with
    | zero => simp [Pl.andL] at hL
    | succ n =>
      unfold Pl.andL at hL
      cases hnt : Pl.notF (D) N f (rst s j) with
      | none => rw [hnt] at hL; cases hL
      | some x =>
        obtain ⟨b1, r1⟩ := x
        rw [hnt] at hL
        have HL : Hid (_ = _) := hL
        have HNT : Hid (_ = _) := hnt
        clear hL hnt hS hp
        go_wp2_with fail
        refine (HN.out wr b s j d b1 r1 HP.out hj hs hd HNT.out).mono ?_
        rintro e w1 ⟨v1, F1, j1, rfl, hk1, hj1, hjj, hr1, hp1, hd1, hlo1⟩
        have HK1 : Hid (Keep b wr w1) := hk1
        have HR1 : Hid (rst s j1 = r1) := hr1
        have HP1 : Hid (PB w1 b s j1 d (.pointer none)) := hp1
        have HD1 : Hid (Den eb E F1 w1 v1 b1) := hd1
        have HLO : Hid (∀ k, k ∈ F1 → wr.heap.size ≤ k) := hlo1
        clear hk1 hr1 hp1 hd1 hlo1
        obtain ⟨hF1, T, x, fn, y, rfl, hrest⟩ := HD1.out
        clear hF1 hrest
        go_wp2_with (first | (at_builtin; refine wpList_append_where _ rfl (.tmp 5) (.tmp 8) 101 rfl w.heap.size 81 i0 .nilIface 1 16 Ybgs.underlying101 HI0.out HZ0.out HZ1.out HZ2.out rfl (by decide) _ ps.length _ rfl ((ownsRow_keep HS.out.own HK1.out hbs).alloc _) ⟨w1.heap.size, 0, none⟩ 1 1 [.iface T x] rfl rfl ?c1 ?c2 (by decide) ?c3 ?c4 ?c5 ?_))
        case c1 => exact cell_one_new _ _ _
        case c2 => intro u hu; simp at hu; subst hu; rfl
        case c3 => unfold maxLen; omega
        case c4 => omega
        case c5 => have := HK1.out.size; have := HS.out.keep.size; simp; omega
        intro v' w2 hown' hgrow hwhere
        have HSS : Hid (Sofar eb E b w.heap.size w w2 v' (F ++ F1) (ps ++ [(.iface T x, b1)])) := Sofar.step hbs rfl HS.out HK1.out HD1.out HLO.out hown' hgrow hwhere
        have HP2 : Hid (PB w2 b s j1 d (.pointer none)) := Sofar.pb hbs HS.out hgrow HP1.out
        obtain ⟨g, cap, cur, hv', hgb, hcur, hnc, hcm, hcs, htake⟩ : ∃ g cap cur, v' = .slice (some ⟨g, 0, none⟩) (ps.length + 1) cap ∧ w.heap.size ≤ g ∧ w2.heap[g]? = some (.cells cur 81 (0, 0)) ∧ ps.length + 1 ≤ cap ∧ cap ≤ maxLen ∧ cur.size = cap * 1 ∧ cur.toList.take ((ps.length + 1) * 1) = ps.map (·.1) ++ [.iface T x] := by
          rcases hown'.2 with ⟨_, h0⟩ | h
          · omega
          · exact h
        clear hown' hgrow hwhere
        subst hv'
        have HCUR : Hid (w2.heap[g]? = some (.cells cur 81 (0, 0))) := hcur
        have HTAKE : Hid (cur.toList.take ((ps.length + 1) * 1) = ps.map (·.1) ++ [.iface T x]) := htake
        have HCS : Hid (cur.size = cap * 1) := hcs
        clear hcur htake hcs hcm
        have c3 := HP2.out.c3
        go_wp2_with fail
        clear c3
        refine (peek_any w2 b s j1 d _ HP2.out hj1 (by unfold maxLen; omega)).mono ?_
        rintro e w3 ⟨rfl, hk3, j2, hj2, hr2, hp3⟩
        have HK3 : Hid (Keep b w2 w3) := hk3
        have HR2 : Hid (rst s j2 = Pl.skip (rst s j1)) := hr2
        have HP3 : Hid (PB w3 b s j2 d (.pointer none)) := hp3
        have c1 := hp3.c1
        have f1 := hp3.fz 1
        clear hk3 hr2 hp3
        have hj12 : j1 ≤ j2 := skip_pos HR2.out hj1 hj2
        have e46 := tok_46 (Pl.skip (rst s j1))
        have e38 := tok_38 (Pl.skip (rst s j1))
        cases h46 : Pl.headIs 46 (Pl.skip (rst s j1)) with
        | true =>
          rw [h46] at e46
          have H46 : Hid (_ = _) := h46
          clear h46 e38
          have hlt2 : j2 < s.size := head_lt (c := 46) (by rw [HR2.out]; exact H46.out)
          go_wp2_with fail
          go_roundg n
          case measure => omega
          case rel => exact ⟨F ++ F1, ps ++ [(.iface T x, b1)], j2 + 1, (HSS.out.later hbs HK3.out).later hbs ((Keep.refl _ _).setCell _ _), HP3.out.set1 _ _ (by omega), by omega, by omega, by simp; omega, and_on (by rw [HR2.out, HR1.out]) HL.out (by rw [← HR1.out, H46.out]; rfl)⟩
        | false =>
          rw [h46] at e46
          have H46 : Hid (_ = _) := h46
          clear h46
          cases h38 : Pl.headIs 38 (Pl.skip (rst s j1)) with
          | true =>
            rw [h38] at e38
            have H38 : Hid (_ = _) := h38
            clear h38
            have hlt2 : j2 < s.size := head_lt (c := 38) (by rw [HR2.out]; exact H38.out)
            go_wp2_with fail
            go_roundg n
            case measure => omega
            case rel => exact ⟨F ++ F1, ps ++ [(.iface T x, b1)], j2 + 1, (HSS.out.later hbs HK3.out).later hbs ((Keep.refl _ _).setCell _ _), HP3.out.set1 _ _ (by omega), by omega, by omega, by simp; omega, and_on (by rw [HR2.out, HR1.out]) HL.out (by rw [← HR1.out, H46.out, H38.out]; rfl)⟩
          | false =>
            rw [h38] at e38
            have H38 : Hid (_ = _) := h38
            clear h38
            have OFF : Hid ((ps ++ [(Value.iface T x, b1)]).all (·.2) = bv ∧ Pl.skip r1 = rest) := and_off HL.out (by rw [← HR1.out]; exact H46.out) (by rw [← HR1.out]; exact H38.out)
            have SS : Hid (Sofar eb E b w.heap.size w w3 (.slice (some ⟨g, 0, none⟩) (ps.length + 1) cap) (F ++ F1) (ps ++ [(.iface T x, b1)])) := HSS.out.later hbs HK3.out
            have RR : Hid (rst s j2 = rest) := by show _ = _; rw [HR2.out, HR1.out, OFF.out.2]
            cases ps with
            | nil =>
              have hc0 : w3.cell? ⟨g, 0, none⟩ = some (.iface T x) := (SS.out.terms (by simp)).cells 0 _ rfl
              have h11 : (((0 : Nat) : Int) + 1 == 1) = true := rfl
              go_wp2_with fail
              go_ret
              refine ⟨_, F ++ F1, j2, rfl, SS.out.keep, hj2, by omega, RR.out, HP3.out, ?_, fun k hk => (SS.out.lo k hk).1⟩
              rw [← OFF.out.1]
              have := SS.out.den (.iface T x, b1) (by simp)
              simpa using this
            | cons p0 ps0 =>
              have h11 : ((((p0 :: ps0).length : Nat) : Int) + 1 == 1) = false := by
                rw [beq_eq_false_iff_ne]; simp only [List.length_cons]; omega
              go_wp2_with fail
              go_ret
              refine ⟨_, g :: (F ++ F1), j2, rfl, SS.out.keep, hj2, by omega, RR.out, HP3.out, ?_, fun k hk => ?_⟩
              · rw [← OFF.out.1]
                have := den_and HCC.out (SS.out.terms (by simp at hlen ⊢; omega)) (cap := cap) (fun k hk => by
                  rcases List.mem_cons.1 hk with rfl | hk
                  · exact (SS.out.own.lt _ rfl).2
                  · exact (SS.out.lo k hk).2.1)
                simpa using this
              · rcases List.mem_cons.1 hk with rfl | hk
                · exact hgb
                · exact (SS.out.lo k hk).1
end Go.Proofs.YboneseleGreatFmt
