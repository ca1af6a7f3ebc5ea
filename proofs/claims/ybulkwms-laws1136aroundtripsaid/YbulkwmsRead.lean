/- The decoder's readers: uint64, uint32, uvarint, varint. -/
import Derived.Test.YbulkwmsDec
import Derived.RegionTactic
import Derived.Deep.RegionWith
namespace Go.Proofs.Ybulkwms
open Go.RowKit Go.Shelf
set_option linter.unusedVariables false
open lawS1136BNext (two_cell0 two_cell1 two_free two_set0 two_set1 info5)

/-- The decoder at block d is whole, and the bytes bs are left. -/
def Dc (w : World) (d : Nat) (bs : List UInt8) : Prop :=
  ∃ p c, w.heap[d]? = some (.cells #[.slice p bs.length c, .bool false] 24 (0, 0)) ∧ Hs w p bs.length c bs
/-- The decoder at block d is damaged. -/
def Dead (w : World) (d : Nat) : Prop := w.heap[d]? = some (.cells #[.slice none 0 0, .bool true] 24 (0, 0))
/-- Fewer than k bytes are left, damaged or not. -/
def Short (w : World) (d k : Nat) : Prop := ∃ p n c dm, w.heap[d]? = some (.cells #[.slice p n c, .bool dm] 24 (0, 0)) ∧ n < k

theorem Dc.drop {w : World} {d k c' : Nat} {p p' : Option Addr} {c : Nat} {bs : List UInt8} (hk : k ≤ bs.length) (hd : w.heap[d]? = some (.cells #[.slice p bs.length c, .bool false] 24 (0, 0))) (h : Hs w p' (bs.length - k) c' (bs.drop k)) :
    Dc (w.setCell ⟨d, 0, none⟩ (.slice p' (bs.length - k) c')) d (bs.drop k) := by
  refine ⟨p', c', ?_, ?_⟩
  · rw [List.length_drop]; exact two_set0 hd
  · rw [List.length_drop]; exact h.kept (kept_ints (grown_set w d 0 _) hd)
theorem Dc.kept {w w' : World} {d : Nat} {bs : List UInt8} (h : Dc w d bs) (hb : Below w.heap.size w w') : Dc w' d bs := by
  obtain ⟨p, c, hd, hs⟩ := h
  exact ⟨p, c, by rw [hb.block d (lt_of_block hd)]; exact hd, hs.kept fun g o v hc => by rw [hb.cell (World.block_lt_of_cell? _ _ hc)]; exact hc⟩

theorem short_of_len {w : World} {d k : Nat} {bs : List UInt8} (h : Dc w d bs) (hk : bs.length < k) : Short w d k := by
  obtain ⟨p, c, hd, hs⟩ := h
  exact ⟨p, _, c, false, hd, hk⟩
theorem short_of_dead {w : World} {d k : Nat} (h : Dead w d) (hk : 0 < k) : Short w d k := ⟨none, 0, 0, true, h, hk⟩
theorem Dead.kept {w w' : World} {d : Nat} (h : Dead w d) (hb : Below w.heap.size w w') : Dead w' d := by
  unfold Dead at h ⊢
  rw [hb.block d (lt_of_block h)]; exact h

set_option maxHeartbeats 800000 in
theorem uint64_ok (d : Nat) (bs : List UInt8) (w : World) (h : Dc w d bs) (h8 : 8 ≤ bs.length) (hn : bs.length ≤ 2048) :
    Calls Yba.prog 19 #[.pointer (some ⟨d, 0, none⟩)] w fun e w' => e = .returned (.int .u64 (Lib.beNat (bs.take 8))) ∧ Dc w' d (bs.drop 8) ∧ w.grownBy w' (some d) := by
  obtain ⟨p, c, hd, hs⟩ := h
  obtain ⟨p', h2, hs2⟩ := cut_from hs 8 h8
  obtain ⟨h1, hs1⟩ := cut_to hs 8 h8
  have hB : Calls Yba.prog 24 #[.pointer (some ⟨d, 0, none⟩), .int .i64 8] w.drew fun e w' => e = .returned (.slice p 8 c) ∧ w' = (w.setCell ⟨d, 0, none⟩ (.slice p' (bs.length - 8) (c - 8))).drew := bytes_ok d 8 _ c _ p p' false w.drew hd hn h8 h1 h2
  have R2 : w.grownBy (w.setCell ⟨d, 0, none⟩ (.slice p' (bs.length - 8) (c - 8))).drew (some d) := grown_trans (grown_set _ d 0 _) (grown_drew _ _)
  have hU := be64 (hs1.kept (kept_ints R2 hd))
  have R1 : Hid (Dc (w.setCell ⟨d, 0, none⟩ (.slice p' (bs.length - 8) (c - 8))).drew d (bs.drop 8)) := Dc.drop (w := w.drew) h8 hd hs2
  have HR2 : Hid (w.grownBy (w.setCell ⟨d, 0, none⟩ (.slice p' (bs.length - 8) (c - 8))).drew (some d)) := R2
  clear R2 hd hs h1 h2 hs1 hs2
  go_enter Yba.func19, Yba.ntmps19
  go_wp2
  go_region_with (first
    | (go_at_call 24; refine hB.mono ?_; rintro e w1 ⟨rfl, rfl⟩)
    | (go_at_call 23; refine hU.mono ?_; rintro e w2 ⟨rfl, hb⟩))
  all_goals go_wp2
  all_goals go_ret
  all_goals exact ⟨rfl, Dc.kept R1.out (by assumption), grown_trans HR2.out (grown_below (by assumption) _)⟩

set_option maxHeartbeats 800000 in
theorem uint64_short (d : Nat) (w : World) (h : Short w d 8) :
    Calls Yba.prog 19 #[.pointer (some ⟨d, 0, none⟩)] w fun e w' => e = .returned (.int .u64 0) ∧ Dead w' d ∧ w.grownBy w' (some d) := by
  obtain ⟨p, n, c, dm, hd, hn⟩ := h
  have hB : Calls Yba.prog 24 #[.pointer (some ⟨d, 0, none⟩), .int .i64 8] w.drew fun e w' => e = .returned (.slice (some ⟨w.heap.size, 0, none⟩) 8 8) ∧ Hid (Dead w' d ∧ Hs w' (some ⟨w.heap.size, 0, none⟩) 8 8 (List.replicate 8 0) ∧ w.grownBy w' (some d)) := (bytes_short d 8 n c p dm w.drew hd (by decide) hn).mono fun e w' ⟨e1, e2, e3, e4⟩ => ⟨e1, e2, e3, grown_trans (grown_drew w _) e4⟩
  clear hd
  go_enter Yba.func19, Yba.ntmps19
  go_wp2
  go_region_with (first
    | (go_at_call 24; refine hB.mono ?_; rintro e w1 ⟨rfl, hR⟩; have hU := be64 hR.out.2.1)
    | (go_at_call 23; refine hU.mono ?_; rintro e w2 ⟨rfl, hb⟩))
  all_goals go_wp2
  all_goals go_ret
  all_goals exact ⟨rfl, Dead.kept hR.out.1 (by assumption), grown_trans hR.out.2.2 (grown_below (by assumption) _)⟩

set_option maxHeartbeats 800000 in
theorem uint32_ok (d : Nat) (bs : List UInt8) (w : World) (h : Dc w d bs) (h8 : 4 ≤ bs.length) (hn : bs.length ≤ 2048) :
    Calls Yba.prog 20 #[.pointer (some ⟨d, 0, none⟩)] w fun e w' => e = .returned (.int .u32 (Lib.beNat (bs.take 4))) ∧ Dc w' d (bs.drop 4) ∧ w.grownBy w' (some d) := by
  obtain ⟨p, c, hd, hs⟩ := h
  obtain ⟨p', h2, hs2⟩ := cut_from hs 4 h8
  obtain ⟨h1, hs1⟩ := cut_to hs 4 h8
  have hB : Calls Yba.prog 24 #[.pointer (some ⟨d, 0, none⟩), .int .i64 4] w.drew fun e w' => e = .returned (.slice p 4 c) ∧ w' = (w.setCell ⟨d, 0, none⟩ (.slice p' (bs.length - 4) (c - 4))).drew := bytes_ok d 4 _ c _ p p' false w.drew hd hn h8 h1 h2
  have R2 : w.grownBy (w.setCell ⟨d, 0, none⟩ (.slice p' (bs.length - 4) (c - 4))).drew (some d) := grown_trans (grown_set _ d 0 _) (grown_drew _ _)
  have hU := be32 (hs1.kept (kept_ints R2 hd))
  have R1 : Hid (Dc (w.setCell ⟨d, 0, none⟩ (.slice p' (bs.length - 4) (c - 4))).drew d (bs.drop 4)) := Dc.drop (w := w.drew) h8 hd hs2
  have HR2 : Hid (w.grownBy (w.setCell ⟨d, 0, none⟩ (.slice p' (bs.length - 4) (c - 4))).drew (some d)) := R2
  clear R2 hd hs h1 h2 hs1 hs2
  go_enter Yba.func20, Yba.ntmps20
  go_wp2
  go_region_with (first
    | (go_at_call 24; refine hB.mono ?_; rintro e w1 ⟨rfl, rfl⟩)
    | (go_at_call 25; refine hU.mono ?_; rintro e w2 ⟨rfl, hb⟩))
  all_goals go_wp2
  all_goals go_ret
  all_goals exact ⟨rfl, Dc.kept R1.out (by assumption), grown_trans HR2.out (grown_below (by assumption) _)⟩

set_option maxHeartbeats 800000 in
theorem uint32_short (d : Nat) (w : World) (h : Short w d 4) :
    Calls Yba.prog 20 #[.pointer (some ⟨d, 0, none⟩)] w fun e w' => e = .returned (.int .u32 0) ∧ Dead w' d ∧ w.grownBy w' (some d) := by
  obtain ⟨p, n, c, dm, hd, hn⟩ := h
  have hB : Calls Yba.prog 24 #[.pointer (some ⟨d, 0, none⟩), .int .i64 4] w.drew fun e w' => e = .returned (.slice (some ⟨w.heap.size, 0, none⟩) 4 4) ∧ Hid (Dead w' d ∧ Hs w' (some ⟨w.heap.size, 0, none⟩) 4 4 (List.replicate 4 0) ∧ w.grownBy w' (some d)) := (bytes_short d 4 n c p dm w.drew hd (by decide) hn).mono fun e w' ⟨e1, e2, e3, e4⟩ => ⟨e1, e2, e3, grown_trans (grown_drew w _) e4⟩
  clear hd
  go_enter Yba.func20, Yba.ntmps20
  go_wp2
  go_region_with (first
    | (go_at_call 24; refine hB.mono ?_; rintro e w1 ⟨rfl, hR⟩; have hU := be32 hR.out.2.1)
    | (go_at_call 25; refine hU.mono ?_; rintro e w2 ⟨rfl, hb⟩))
  all_goals go_wp2
  all_goals go_ret
  all_goals exact ⟨rfl, Dead.kept hR.out.1 (by assumption), grown_trans hR.out.2.2 (grown_below (by assumption) _)⟩


set_option maxHeartbeats 800000 in
theorem uvarint_ok (d m : Nat) (bs : List UInt8) (w : World) (h : Dc w d bs) (hn : bs.length ≤ 2048) (v : Nat) (hv : Lib.uvarintDec bs = (v, (m : Int))) (hm : 0 < m) (hml : m ≤ bs.length) :
    Calls Yba.prog 21 #[.pointer (some ⟨d, 0, none⟩)] w fun e w' => e = .returned (.int .u64 v) ∧ Dc w' d (bs.drop m) ∧ w.grownBy w' (some d) := by
  obtain ⟨p, c, hd, hs⟩ := h
  obtain ⟨p', h2, hs2⟩ := cut_from hs m hml
  have hU := uvar hs
  rw [hv] at hU
  have R1 : Hid (Dc (w.setCell ⟨d, 0, none⟩ (.slice p' (bs.length - m) (c - m))) d (bs.drop m)) := Dc.drop hml hd hs2
  have c0 := two_cell0 hd
  have f0 := two_free (j := 0) hd
  have hmi : ¬ ((m : Int) ≤ 0) := by omega
  clear hd hs hs2 hv
  go_enter Yba.func21, Yba.ntmps21
  go_wp2_with (go_at_call 9; refine hU.mono ?_; rintro e w1 ⟨rfl, rfl⟩)
  go_ret
  exact ⟨rfl, R1.out, grown_set _ _ _ _⟩

set_option maxHeartbeats 800000 in
theorem uvarint_bad (d n c : Nat) (p : Option Addr) (dm : Bool) (bs : List UInt8) (w : World) (hd : w.heap[d]? = some (.cells #[.slice p n c, .bool dm] 24 (0, 0))) (hs : Hs w p n c bs) (m : Int) (v : Nat) (hv : Lib.uvarintDec bs = (v, m)) (hm : m ≤ 0) :
    Calls Yba.prog 21 #[.pointer (some ⟨d, 0, none⟩)] w fun e w' => e = .returned (.int .u64 0) ∧ Dead w' d ∧ w.grownBy w' (some d) := by
  have hU := uvar hs
  rw [hv] at hU
  have R1 : Hid (Dead ((w.setCell ⟨d, 1, none⟩ (.bool true)).setCell ⟨d, 0, none⟩ (.slice none 0 0)) d) := two_set0 (two_set1 hd)
  have c0 := two_cell0 hd
  have c1 := two_cell1 hd
  have f0 := two_free (j := 0) hd
  have f1 := two_free (j := 1) hd
  clear hd hs hv
  go_enter Yba.func21, Yba.ntmps21
  go_wp2_with (go_at_call 9; refine hU.mono ?_; rintro e w1 ⟨rfl, rfl⟩)
  go_ret
  exact ⟨rfl, R1.out, grown_trans (grown_set _ _ _ _) (grown_set _ _ _ _)⟩

set_option maxHeartbeats 800000 in
theorem varint_ok (d m : Nat) (bs : List UInt8) (w : World) (h : Dc w d bs) (hn : bs.length ≤ 2048) (v : Int) (hv : Lib.varintDec bs = (v, (m : Int))) (hm : 0 < m) (hml : m ≤ bs.length) :
    Calls Yba.prog 22 #[.pointer (some ⟨d, 0, none⟩)] w fun e w' => e = .returned (.int .i64 v) ∧ Dc w' d (bs.drop m) ∧ w.grownBy w' (some d) := by
  obtain ⟨p, c, hd, hs⟩ := h
  obtain ⟨p', h2, hs2⟩ := cut_from hs m hml
  have hU := svar hs
  rw [hv] at hU
  have R1 : Hid (Dc (w.setCell ⟨d, 0, none⟩ (.slice p' (bs.length - m) (c - m))) d (bs.drop m)) := Dc.drop hml hd hs2
  have c0 := two_cell0 hd
  have f0 := two_free (j := 0) hd
  have hmi : ¬ ((m : Int) ≤ 0) := by omega
  clear hd hs hs2 hv
  go_enter Yba.func22, Yba.ntmps22
  go_wp2_with (go_at_call 10; refine hU.mono ?_; rintro e w1 ⟨rfl, rfl⟩)
  go_ret
  exact ⟨rfl, R1.out, grown_set _ _ _ _⟩

set_option maxHeartbeats 800000 in
theorem varint_bad (d n c : Nat) (p : Option Addr) (dm : Bool) (bs : List UInt8) (w : World) (hd : w.heap[d]? = some (.cells #[.slice p n c, .bool dm] 24 (0, 0))) (hs : Hs w p n c bs) (m v : Int) (hv : Lib.varintDec bs = (v, m)) (hm : m ≤ 0) :
    Calls Yba.prog 22 #[.pointer (some ⟨d, 0, none⟩)] w fun e w' => e = .returned (.int .i64 0) ∧ Dead w' d ∧ w.grownBy w' (some d) := by
  have hU := svar hs
  rw [hv] at hU
  have R1 : Hid (Dead ((w.setCell ⟨d, 1, none⟩ (.bool true)).setCell ⟨d, 0, none⟩ (.slice none 0 0)) d) := two_set0 (two_set1 hd)
  have c0 := two_cell0 hd
  have c1 := two_cell1 hd
  have f0 := two_free (j := 0) hd
  have f1 := two_free (j := 1) hd
  clear hd hs hv
  go_enter Yba.func22, Yba.ntmps22
  go_wp2_with (go_at_call 10; refine hU.mono ?_; rintro e w1 ⟨rfl, rfl⟩)
  go_ret
  exact ⟨rfl, R1.out, grown_trans (grown_set _ _ _ _) (grown_set _ _ _ _)⟩

end Go.Proofs.Ybulkwms
