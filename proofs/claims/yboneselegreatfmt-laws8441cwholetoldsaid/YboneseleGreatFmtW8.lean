import Derived.Test.YboneseleGreatFmtW7
namespace Go.Proofs.YboneseleGreatFmt
open Go.RowKit

def OrC (eb : Nat) (D : List UInt8 → Option Bool) (E : World → Prop) (N f : Nat) : Prop := ∀ (w : World) (b : Nat) (s : ByteArray) (i d : Nat) (bv : Bool) (rest : List UInt8), PB w b s i d (.pointer none) → i ≤ s.size → s.size ≤ 1073741824 → d + f ≤ 1000 →
  Pl.orL (Pl.andL (Pl.notF (D) N f) N true) N false (rst s i) = some (bv, rest) → Calls Ybgs.prog 12 #[.pointer (some ⟨b, 0, none⟩)] w (Got eb E b s i d bv rest w)

theorem tok_bar (l : List UInt8) (h1 : Pl.headIs 124 l = true) (h2 : Pl.headIs 124 l.tail = false) : tok l = [124] := by
  match l with
  | [] => cases h1
  | c :: t =>
    have h1' : c = 124 := by simpa [Pl.headIs] using h1
    have h2' : Pl.headIs 124 t = false := h2
    rw [tok_cons, h2', h1']; rfl
theorem tok_not1 (l : List UInt8) (h1 : Pl.headIs 124 l = false) : ((mk (tok l)).toList == [124]) = false := by
  rw [Lib.toList_data, mk_data]
  match l with
  | [] => rfl
  | c :: t =>
    have h1' : (c == 124) = false := h1
    rw [tok_cons, h1']; simpa using h1'
theorem tok_not2 (l : List UInt8) (h1 : Pl.headIs 124 l = false) : ((mk (tok l)).toList == [124, 124]) = false := by
  rw [Lib.toList_data, mk_data]
  match l with
  | [] => rfl
  | c :: t =>
    have h1' : (c == 124) = false := h1
    rw [tok_cons, h1']; simp

theorem or_on2 {an : List UInt8 → Option (Bool × List UInt8)} {n : Nat} {ps : List (Value × Bool)} {b1 : Bool} {r1 : List UInt8} {v : Value} {res : Bool × List UInt8} {s : ByteArray} {j2 : Nat} (hr : rst s j2 = Pl.skip r1)
    (h : (if Pl.headIs 124 (Pl.skip r1) then (if Pl.headIs 124 (Pl.skip r1).tail then Pl.orL an n (ps.any (·.2) || b1) (Pl.skip r1).tail.tail else Pl.orL an n (ps.any (·.2) || b1) (Pl.skip r1).tail) else some (ps.any (·.2) || b1, Pl.skip r1)) = some res)
    (h1 : Pl.headIs 124 (Pl.skip r1) = true) (h2 : Pl.headIs 124 (Pl.skip r1).tail = true) : Pl.orL an n ((ps ++ [(v, b1)]).any (·.2)) (rst s (j2 + 1 + 1)) = some res := by
  rw [if_pos h1, if_pos h2] at h
  rw [← rst_tail, ← rst_tail, hr, List.any_append]
  simpa using h
theorem or_on1 {an : List UInt8 → Option (Bool × List UInt8)} {n : Nat} {ps : List (Value × Bool)} {b1 : Bool} {r1 : List UInt8} {v : Value} {res : Bool × List UInt8} {s : ByteArray} {j2 : Nat} (hr : rst s j2 = Pl.skip r1)
    (h : (if Pl.headIs 124 (Pl.skip r1) then (if Pl.headIs 124 (Pl.skip r1).tail then Pl.orL an n (ps.any (·.2) || b1) (Pl.skip r1).tail.tail else Pl.orL an n (ps.any (·.2) || b1) (Pl.skip r1).tail) else some (ps.any (·.2) || b1, Pl.skip r1)) = some res)
    (h1 : Pl.headIs 124 (Pl.skip r1) = true) (h2 : Pl.headIs 124 (Pl.skip r1).tail = false) : Pl.orL an n ((ps ++ [(v, b1)]).any (·.2)) (rst s (j2 + 1)) = some res := by
  rw [if_pos h1, if_neg (by rw [h2]; decide)] at h
  rw [← rst_tail, hr, List.any_append]
  simpa using h
theorem or_off {an : List UInt8 → Option (Bool × List UInt8)} {n : Nat} {ps : List (Value × Bool)} {b1 bv : Bool} {r1 rest : List UInt8} {v : Value}
    (h : (if Pl.headIs 124 (Pl.skip r1) then (if Pl.headIs 124 (Pl.skip r1).tail then Pl.orL an n (ps.any (·.2) || b1) (Pl.skip r1).tail.tail else Pl.orL an n (ps.any (·.2) || b1) (Pl.skip r1).tail) else some (ps.any (·.2) || b1, Pl.skip r1)) = some (bv, rest))
    (h1 : Pl.headIs 124 (Pl.skip r1) = false) : (ps ++ [(v, b1)]).any (·.2) = bv ∧ Pl.skip r1 = rest := by
  rw [if_neg (by rw [h1]; decide)] at h
  simp only [Option.some.injEq, Prod.mk.injEq] at h
  refine ⟨?_, h.2⟩
  rw [List.any_append, ← h.1]; simp

set_option maxRecDepth 100000 in
set_option maxHeartbeats 1000000 in
theorem or_any (eb : Nat) (D : List UInt8 → Option Bool) (E : World → Prop) (N f : Nat) (hC : Cls eb D E) (hN : AndC eb D E N f) : OrC eb D E N f := by
  intro w b s i d bv rest hb hi hs hd hA
  obtain ⟨i0, hi0, hz0, hz1, hz2⟩ := info_parts Ybgs.info81
  have HN : Hid (AndC eb D E N f) := hN
  have HA : Hid (Pl.orL (Pl.andL (Pl.notF (D) N f) N true) N false (rst s i) = some (bv, rest)) := hA
  have HI0 : Hid (Ybgs.prog.info? 81 = some i0) := hi0
  have HZ0 : Hid (i0.zero = _) := hz0
  have HZ1 : Hid (i0.size = _) := hz1
  have HZ2 : Hid (i0.bytes = _) := hz2
  have hbs := hb.lt
  have HCC : Hid (Cls eb D E) := hC
  clear hN hA hi0 hz0 hz1 hz2 hC
  go_enter Ybgs.func12, Ybgs.ntmps12
  go_wp2_with fail
  go_loopg [3] N (fun n v wr => ∃ F ps j, Sofar eb E b w.heap.size w wr v F ps ∧ PB wr b s j d (.pointer none) ∧ i ≤ j ∧ j ≤ s.size ∧ ps.length ≤ j ∧ Pl.orL (Pl.andL (Pl.notF (D) N f) N true) n (ps.any (·.2)) (rst s j) = some (bv, rest))
  case atStart => exact ⟨[], [], i, ⟨World.ownsRow_nil _ _ _ _, Keep.refl _ _, fun p hp => (List.not_mem_nil hp).elim, fun p hp => (List.not_mem_nil hp).elim⟩, hb, Nat.le_refl _, hi, Nat.zero_le _, HA.out⟩
  case round =>
    obtain ⟨F, ps, j, hS, hp, hij, hj, hlen, hL⟩ := hrel
    have HS : Hid (Sofar eb E b w.heap.size w wr _ F ps) := hS
    have HP : Hid (PB wr b s j d (.pointer none)) := hp
    cases gk with
    | zero => simp [Pl.orL] at hL
    | succ n =>
      unfold Pl.orL at hL
      cases hnt : Pl.andL (Pl.notF (D) N f) N true (rst s j) with
      | none => rw [hnt] at hL; cases hL
      | some x =>
        obtain ⟨b1, r1⟩ := x
        rw [hnt] at hL
        have HL : Hid (_ = _) := hL
        have HNT : Hid (_ = _) := hnt
        clear hL hnt hS hp
        go_wp2_with fail
        refine (HN.out wr b s j d b1 r1 HP.out hj hs hd HNT.out).mono ?_
        rintro e w1 ⟨v1, F1, j1, rfl, hk1, hj1, hjj, hr1, hp1, hd1, hlo1⟩
        have HK1 : Hid (Keep b wr w1) := hk1
        have HR1 : Hid (rst s j1 = r1) := hr1
        have HP1 : Hid (PB w1 b s j1 d (.pointer none)) := hp1
        have HD1 : Hid (Den eb E F1 w1 v1 b1) := hd1
        have HLO : Hid (∀ k, k ∈ F1 → wr.heap.size ≤ k) := hlo1
        clear hk1 hr1 hp1 hd1 hlo1
        obtain ⟨hF1, T, x, fn, y, rfl, hrest⟩ := HD1.out
        clear hF1 hrest
        go_wp2_with (first | (at_builtin; refine wpList_append_where _ rfl (.tmp 5) (.tmp 8) 99 rfl w.heap.size 81 i0 .nilIface 1 16 Ybgs.underlying99 HI0.out HZ0.out HZ1.out HZ2.out rfl (by decide) _ ps.length _ rfl ((ownsRow_keep HS.out.own HK1.out hbs).alloc _) ⟨w1.heap.size, 0, none⟩ 1 1 [.iface T x] rfl rfl ?c1 ?c2 (by decide) ?c3 ?c4 ?c5 ?_))
        case c1 => exact cell_one_new _ _ _
        case c2 => intro u hu; simp at hu; subst hu; rfl
        case c3 => unfold maxLen; omega
        case c4 => omega
        case c5 => have := HK1.out.size; have := HS.out.keep.size; simp; omega
        intro v' w2 hown' hgrow hwhere
        have HSS : Hid (Sofar eb E b w.heap.size w w2 v' (F ++ F1) (ps ++ [(.iface T x, b1)])) := Sofar.step hbs rfl HS.out HK1.out HD1.out HLO.out hown' hgrow hwhere
        have HP2 : Hid (PB w2 b s j1 d (.pointer none)) := Sofar.pb hbs HS.out hgrow HP1.out
        obtain ⟨g, cap, cur, hv', hgb, hcur, hnc, hcm, hcs, htake⟩ : ∃ g cap cur, v' = .slice (some ⟨g, 0, none⟩) (ps.length + 1) cap ∧ w.heap.size ≤ g ∧ w2.heap[g]? = some (.cells cur 81 (0, 0)) ∧ ps.length + 1 ≤ cap ∧ cap ≤ maxLen ∧ cur.size = cap * 1 ∧ cur.toList.take ((ps.length + 1) * 1) = ps.map (·.1) ++ [.iface T x] := by
          rcases hown'.2 with ⟨_, h0⟩ | h
          · omega
          · exact h
        clear hown' hgrow hwhere
        subst hv'
        have HCUR : Hid (w2.heap[g]? = some (.cells cur 81 (0, 0))) := hcur
        have HTAKE : Hid (cur.toList.take ((ps.length + 1) * 1) = ps.map (·.1) ++ [.iface T x]) := htake
        have HCS : Hid (cur.size = cap * 1) := hcs
        clear hcur htake hcs hcm
        have c3 := HP2.out.c3
        go_wp2_with fail
        clear c3
        refine (peek_any w2 b s j1 d _ HP2.out hj1 (by unfold maxLen; omega)).mono ?_
        rintro e w3 ⟨rfl, hk3, j2, hj2, hr2, hp3⟩
        have HK3 : Hid (Keep b w2 w3) := hk3
        have HR2 : Hid (rst s j2 = Pl.skip (rst s j1)) := hr2
        have HP3 : Hid (PB w3 b s j2 d (.pointer none)) := hp3
        have c1 := hp3.c1
        have f1 := hp3.fz 1
        clear hk3 hr2 hp3
        have hj12 : j1 ≤ j2 := skip_pos HR2.out hj1 hj2
        cases h1 : Pl.headIs 124 (Pl.skip (rst s j1)) with
        | true =>
          have H1 : Hid (_ = _) := h1
          clear h1
          have hlt2 : j2 < s.size := head_lt (c := 124) (by rw [HR2.out]; exact H1.out)
          cases h2 : Pl.headIs 124 (Pl.skip (rst s j1)).tail with
          | true =>
            have H2 : Hid (_ = _) := h2
            clear h2
            have hlt3 : j2 + 1 < s.size := head_lt (c := 124) (by rw [← rst_tail, HR2.out]; exact H2.out)
            rw [show mk (tok (Pl.skip (rst s j1))) = ⟨#[124, 124]⟩ from by rw [tok_two _ (by rw [H1.out, H2.out]; rfl)]; rfl]
            go_wp2_with fail
            go_roundg n
            case measure => omega
            case rel => exact ⟨F ++ F1, ps ++ [(.iface T x, b1)], j2 + 1 + 1, (HSS.out.later hbs HK3.out).later hbs ((Keep.refl _ _).setCell _ _), HP3.out.set1 _ _ (by omega), by omega, by omega, by simp; omega, or_on2 (by rw [HR2.out, HR1.out]) HL.out (by rw [← HR1.out, H1.out]) (by rw [← HR1.out, H2.out])⟩
          | false =>
            have H2 : Hid (_ = _) := h2
            clear h2
            rw [show mk (tok (Pl.skip (rst s j1))) = ⟨#[124]⟩ from by rw [tok_bar _ H1.out H2.out]; rfl]
            go_wp2_with fail
            go_roundg n
            case measure => omega
            case rel => exact ⟨F ++ F1, ps ++ [(.iface T x, b1)], j2 + 1, (HSS.out.later hbs HK3.out).later hbs ((Keep.refl _ _).setCell _ _), HP3.out.set1 _ _ (by omega), by omega, by omega, by simp; omega, or_on1 (by rw [HR2.out, HR1.out]) HL.out (by rw [← HR1.out, H1.out]) (by rw [← HR1.out, H2.out])⟩
        | false =>
          have H1 : Hid (_ = _) := h1
          clear h1
          have e1 := tok_not1 _ H1.out
          have e2 := tok_not2 _ H1.out
          have OFF : Hid ((ps ++ [(Value.iface T x, b1)]).any (·.2) = bv ∧ Pl.skip r1 = rest) := or_off HL.out (by rw [← HR1.out]; exact H1.out)
          have SS : Hid (Sofar eb E b w.heap.size w w3 (.slice (some ⟨g, 0, none⟩) (ps.length + 1) cap) (F ++ F1) (ps ++ [(.iface T x, b1)])) := HSS.out.later hbs HK3.out
          have RR : Hid (rst s j2 = rest) := by show _ = _; rw [HR2.out, HR1.out, OFF.out.2]
          cases ps with
          | nil =>
            have hc0 : w3.cell? ⟨g, 0, none⟩ = some (.iface T x) := (SS.out.terms (by simp)).cells 0 _ rfl
            have h11 : (((0 : Nat) : Int) + 1 == 1) = true := rfl
            go_wp2_with fail
            go_ret
            refine ⟨_, F ++ F1, j2, rfl, SS.out.keep, hj2, by omega, RR.out, HP3.out, ?_, fun k hk => (SS.out.lo k hk).1⟩
            rw [← OFF.out.1]
            have := SS.out.den (.iface T x, b1) (by simp)
            simpa using this
          | cons p0 ps0 =>
            have h11 : ((((p0 :: ps0).length : Nat) : Int) + 1 == 1) = false := by
              rw [beq_eq_false_iff_ne]; simp only [List.length_cons]; omega
            go_wp2_with fail
            go_ret
            refine ⟨_, g :: (F ++ F1), j2, rfl, SS.out.keep, hj2, by omega, RR.out, HP3.out, ?_, fun k hk => ?_⟩
            · rw [← OFF.out.1]
              have := den_or HCC.out (SS.out.terms (by simp at hlen ⊢; omega)) (cap := cap) (fun k hk => by
                rcases List.mem_cons.1 hk with rfl | hk
                · exact (SS.out.own.lt _ rfl).2
                · exact (SS.out.lo k hk).2.1)
              simpa using this
            · rcases List.mem_cons.1 hk with rfl | hk
              · exact hgb
              · exact (SS.out.lo k hk).1

end Go.Proofs.YboneseleGreatFmt
