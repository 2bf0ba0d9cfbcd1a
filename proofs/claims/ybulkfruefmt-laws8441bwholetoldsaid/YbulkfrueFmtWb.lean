import Derived.Test.YbulkfrueFmtWa
namespace Go.Proofs.YbulkfrueFmt
open Go.RowKit Go.Extern.Stop Go.Stop Go.Extern

set_option maxRecDepth 100000 in
set_option maxHeartbeats 1000000 in
theorem and_bad (w : World) (b : Nat) (s : ByteArray) (d : Nat) (hN : Calls Ybaf.prog 18 #[.pointer (some ⟨b, 0, none⟩)] w (Bad b s d w)) : Calls Ybaf.prog 16 #[.pointer (some ⟨b, 0, none⟩)] w (Bad b s d w) := by
  obtain ⟨i0, hi0, hz0, hz1, hz2⟩ := info_parts Ybaf.info30
  have HN : Hid (Calls Ybaf.prog 18 #[.pointer (some ⟨b, 0, none⟩)] w (Bad b s d w)) := hN
  have HI0 : Hid (Ybaf.prog.info? 30 = some i0) := hi0
  have HZ0 : Hid (i0.zero = _) := hz0
  have HZ1 : Hid (i0.size = _) := hz1
  have HZ2 : Hid (i0.bytes = _) := hz2
  clear hN hi0 hz0 hz1 hz2
  go_enter Ybaf.func16, Ybaf.ntmps16
  go_wp2_with fail
  go_loopg [3] 0 (fun g v wr => w = wr ∧ v = .slice none 0 0)
  case atStart => exact ⟨rfl, rfl⟩
  case round =>
    obtain ⟨rfl, rfl⟩ := hrel
    go_wp2_with fail
    refine HN.out.mono ?_
    rintro e w1 ⟨eb, m, rfl, hk, hp, hlo, hc⟩
    have HK : Hid (Keep b w w1) := hk
    have HP : Hid (PB w1 b s s.size d (.pointer (some ⟨eb, 0, none⟩))) := hp
    have HC : Hid (w1.heap[eb]? = some (.cells #[.int .i64 (s.size : Int), .string m] 38)) := hc
    clear hk hp hc
    go_wp2_with (first | (at_builtin; refine wpList_append_where _ rfl (.tmp 5) (.tmp 8) 58 rfl w.heap.size 30 i0 .nilIface 1 16 Ybaf.underlying58 HI0.out HZ0.out HZ1.out HZ2.out rfl (by decide) _ 0 [] rfl (World.ownsRow_nil _ _ _ _) ⟨w1.heap.size, 0, none⟩ 1 1 [.nilIface] rfl rfl ?c1 ?c2 (by decide) ?c3 ?c4 ?c5 ?_))
    case c1 => exact cell_one_new _ _ _
    case c2 => intro u hu; simp at hu; subst hu; rfl
    case c3 => unfold maxLen; omega
    case c4 => omega
    case c5 => have := HK.out.size; simp; omega
    intro v' w2 hown' hgrow hwhere
    have HB : Hid (Bad b s d w (.returned .nilIface) w2) := by
      have hs := HK.out.size
      have hgs := hgrow.size
      rw [World.size_alloc] at hgs
      have bl : ∀ k, k < w1.heap.size → w2.heap[k]? = w1.heap[k]? := fun k hk' => by
        rw [hgrow.block k (by rw [World.size_alloc]; omega) (by intro h; cases h), Below.heap_alloc _ _ _ hk']
      have hel : eb < w1.heap.size := by
        rcases Nat.lt_or_ge eb w1.heap.size with q | q
        · exact q
        · have := HC.out; rw [Array.getElem?_eq_none q] at this; cases this
      refine ⟨eb, m, rfl, (HK.out.alloc _).grown hgrow (fun k hk' => by cases hk'), ?_, hlo, ?_⟩
      · unfold PB; rw [bl b HP.out.lt]; exact HP.out
      · rw [bl eb hel]; exact HC.out
    have c3 : w2.cell? ⟨b, 3, none⟩ = some (.pointer (some ⟨eb, 0, none⟩)) := by
      rw [cell_same (w := w1) (by rw [hgrow.block b (by rw [World.size_alloc]; have := HP.out.lt; omega) (by intro h; cases h), Below.heap_alloc _ _ _ HP.out.lt])]; exact HP.out.c3
    clear hown' hgrow hwhere
    go_wp2_with fail
    go_ret
    exact HB.out

set_option maxRecDepth 100000 in
set_option maxHeartbeats 1000000 in
theorem or_bad (w : World) (b : Nat) (s : ByteArray) (d : Nat) (hN : Calls Ybaf.prog 16 #[.pointer (some ⟨b, 0, none⟩)] w (Bad b s d w)) : Calls Ybaf.prog 12 #[.pointer (some ⟨b, 0, none⟩)] w (Bad b s d w) := by
  obtain ⟨i0, hi0, hz0, hz1, hz2⟩ := info_parts Ybaf.info30
  have HN : Hid (Calls Ybaf.prog 16 #[.pointer (some ⟨b, 0, none⟩)] w (Bad b s d w)) := hN
  have HI0 : Hid (Ybaf.prog.info? 30 = some i0) := hi0
  have HZ0 : Hid (i0.zero = _) := hz0
  have HZ1 : Hid (i0.size = _) := hz1
  have HZ2 : Hid (i0.bytes = _) := hz2
  clear hN hi0 hz0 hz1 hz2
  go_enter Ybaf.func12, Ybaf.ntmps12
  go_wp2_with fail
  go_loopg [3] 0 (fun g v wr => w = wr ∧ v = .slice none 0 0)
  case atStart => exact ⟨rfl, rfl⟩
  case round =>
    obtain ⟨rfl, rfl⟩ := hrel
    go_wp2_with fail
    refine HN.out.mono ?_
    rintro e w1 ⟨eb, m, rfl, hk, hp, hlo, hc⟩
    have HK : Hid (Keep b w w1) := hk
    have HP : Hid (PB w1 b s s.size d (.pointer (some ⟨eb, 0, none⟩))) := hp
    have HC : Hid (w1.heap[eb]? = some (.cells #[.int .i64 (s.size : Int), .string m] 38)) := hc
    clear hk hp hc
    go_wp2_with (first | (at_builtin; refine wpList_append_where _ rfl (.tmp 5) (.tmp 8) 56 rfl w.heap.size 30 i0 .nilIface 1 16 Ybaf.underlying56 HI0.out HZ0.out HZ1.out HZ2.out rfl (by decide) _ 0 [] rfl (World.ownsRow_nil _ _ _ _) ⟨w1.heap.size, 0, none⟩ 1 1 [.nilIface] rfl rfl ?c1 ?c2 (by decide) ?c3 ?c4 ?c5 ?_))
    case c1 => exact cell_one_new _ _ _
    case c2 => intro u hu; simp at hu; subst hu; rfl
    case c3 => unfold maxLen; omega
    case c4 => omega
    case c5 => have := HK.out.size; simp; omega
    intro v' w2 hown' hgrow hwhere
    have HB : Hid (Bad b s d w (.returned .nilIface) w2) := by
      have hs := HK.out.size
      have hgs := hgrow.size
      rw [World.size_alloc] at hgs
      have bl : ∀ k, k < w1.heap.size → w2.heap[k]? = w1.heap[k]? := fun k hk' => by
        rw [hgrow.block k (by rw [World.size_alloc]; omega) (by intro h; cases h), Below.heap_alloc _ _ _ hk']
      have hel : eb < w1.heap.size := by
        rcases Nat.lt_or_ge eb w1.heap.size with q | q
        · exact q
        · have := HC.out; rw [Array.getElem?_eq_none q] at this; cases this
      refine ⟨eb, m, rfl, (HK.out.alloc _).grown hgrow (fun k hk' => by cases hk'), ?_, hlo, ?_⟩
      · unfold PB; rw [bl b HP.out.lt]; exact HP.out
      · rw [bl eb hel]; exact HC.out
    have c3 : w2.cell? ⟨b, 3, none⟩ = some (.pointer (some ⟨eb, 0, none⟩)) := by
      rw [cell_same (w := w1) (by rw [hgrow.block b (by rw [World.size_alloc]; have := HP.out.lt; omega) (by intro h; cases h), Below.heap_alloc _ _ _ HP.out.lt])]; exact HP.out.c3
    clear hown' hgrow hwhere
    go_wp2_with fail
    go_ret
    exact HB.out
end Go.Proofs.YbulkfrueFmt
