/- '(*decoder).posting'. -/
import Derived.Test.YbulkwmsRead
namespace Go.Proofs.Ybulkwms
open Go.RowKit Go.Shelf
set_option linter.unusedVariables false
open lawS1136BNext (two_cell0 two_cell1 two_free two_set0 two_set1 info5)

/-- The decoder's state: 'none': damaged; 'some bs': whole, bs are left. -/
def St (w : World) (d : Nat) : Option (List UInt8) → Prop
  | none => Dead w d
  | some bs => Dc w d bs
def left : Option (List UInt8) → Nat
  | none => 0
  | some bs => bs.length

theorem St.kept {w w' : World} {d : Nat} {o : Option (List UInt8)} (h : St w d o) (hb : Below w.heap.size w w') : St w' d o := by
  cases o with
  | none => exact Dead.kept h hb
  | some bs => exact Dc.kept h hb

theorem St.cell {w : World} {d : Nat} {o : Option (List UInt8)} (h : St w d o) : d < w.heap.size ∧ ∃ p c dm, w.heap[d]? = some (.cells #[.slice p (left o) c, .bool dm] 24 (0, 0)) := by
  cases o with
  | none => exact ⟨lt_of_block h, _, _, _, h⟩
  | some bs => obtain ⟨p, c, hd, _⟩ := h; exact ⟨lt_of_block hd, _, _, _, hd⟩

/-- A store of a posting into a block of postings. -/
theorem St.store {w w' : World} {d r : Nat} {o : Option (List UInt8)} {a b c : Int} (h : St w d o) (hr : w.heap[r]? = some (.cells #[.int .u64 a, .int .i32 b, .int .i32 c] 27 (0, 0))) (hg : w.grownBy w' (some r)) : St w' d o := by
  have hne : d ≠ r := by
    rintro rfl
    obtain ⟨_, p, c, dm, hd⟩ := h.cell
    rw [hd] at hr
    simp at hr
  have hbl : ∀ x, w.heap[d]? = some x → w'.heap[d]? = some x := fun x hx => (hg.block d (lt_of_block hx) (by simp [hne])).trans hx
  cases o with
  | none => exact hbl _ h
  | some bs =>
    obtain ⟨p, c', hd, hs⟩ := h
    refine ⟨p, c', hbl _ hd, hs.kept fun g o v hc => hg.cell hc ?_⟩
    intro e
    simp at e
    subst e
    simp [World.cell?, hr] at hc
    match o, hc with
    | 0, hc => simp at hc
    | 1, hc => simp at hc
    | 2, hc => simp at hc
    | o + 3, hc => simp at hc

theorem three {w : World} {b : Nat} {x y z : Value} {t : TypeId} (h : w.heap[b]? = some (.cells #[x, y, z] t (0, 0))) :
    w.cell? ⟨b, 0, none⟩ = some x ∧ w.cell? ⟨b, 1, none⟩ = some y ∧ w.cell? ⟨b, 2, none⟩ = some z ∧ ∀ j, w.frozen? ⟨b, j, none⟩ = false := by
  simp [World.cell?, World.frozen?, h]

theorem three_set {w : World} {b : Nat} {x y z x' y' z' : Value} {t : TypeId} (h : w.heap[b]? = some (.cells #[x, y, z] t (0, 0))) :
    (((w.setCell ⟨b, 0, none⟩ x').setCell ⟨b, 1, none⟩ y').setCell ⟨b, 2, none⟩ z').heap[b]? = some (.cells #[x', y', z'] t (0, 0)) := by
  simp [World.setCell, Array.getElem?_modify, h]
theorem size_set3 (w : World) (b : Nat) (x y z : Value) : (((w.setCell ⟨b, 0, none⟩ x).setCell ⟨b, 1, none⟩ y).setCell ⟨b, 2, none⟩ z).heap.size = w.heap.size := by
  simp [World.setCell]

/-- The two blocks of postings behind the calls. -/
theorem blocks_two {w w1 w2 w3 w4 : World} {d : Nat} {O O' : Obj} (hd : d < w.heap.size) (g1 : (w.alloc O).grownBy w1 (some d)) (g2 : w1.grownBy w2 (some d)) (g3 : w2.grownBy w3 (some d)) (g4 : (w3.alloc O').grownBy w4 (some d)) :
    w4.heap[w.heap.size]? = some O ∧ w4.heap[w3.heap.size]? = some O' ∧ w.heap.size < w3.heap.size ∧ w.grownBy w4 (some d) := by
  have G0 : (w.alloc O).grownBy w3 (some d) := grown_trans g1 (grown_trans g2 g3)
  have G : (w.alloc O).grownBy w4 (some d) := grown_trans G0 (grown_trans (World.grownBy_alloc w3 O' _) g4)
  have hsz : w.heap.size < w3.heap.size := by have := G0.size; simp at this; omega
  refine ⟨?_, ?_, hsz, grown_trans (World.grownBy_alloc w O _) G⟩
  · rw [G.block w.heap.size (by simp) (by simp; omega)]; exact heap_alloc_new w O
  · rw [g4.block w3.heap.size (by simp) (by simp; omega)]; exact heap_alloc_new w3 O'

theorem grown_new {a b c : World} {r : Option Nat} {q : Nat} (h : a.grownBy b r) (k : b.grownBy c (some q)) (hq : a.heap.size ≤ q) : a.grownBy c r :=
  ⟨k.os.trans h.os, k.tape.trans h.tape, k.output.trans h.output, Nat.le_trans h.size k.size, fun i hi hr => (k.block i (Nat.lt_of_lt_of_le hi h.size) (by simp; omega)).trans (h.block i hi hr)⟩

set_option maxHeartbeats 1600000 in
theorem posting_one (d : Nat) (o0 o1 o2 o3 o4 : Option (List UInt8)) (h c n k : Int) (w : World) (hs : St w d o0)
    (A1 : Hid (∀ w, St w d o0 → Calls Yba.prog 19 #[.pointer (some ⟨d, 0, none⟩)] w fun e w' => e = .returned (.int .u64 h) ∧ St w' d o1 ∧ w.grownBy w' (some d)))
    (A2 : Hid (∀ w, St w d o1 → Calls Yba.prog 20 #[.pointer (some ⟨d, 0, none⟩)] w fun e w' => e = .returned (.int .u32 c) ∧ St w' d o2 ∧ w.grownBy w' (some d)))
    (A3 : Hid (∀ w, St w d o2 → Calls Yba.prog 21 #[.pointer (some ⟨d, 0, none⟩)] w fun e w' => e = .returned (.int .u64 n) ∧ St w' d o3 ∧ w.grownBy w' (some d)))
    (A4 : Hid (∀ w, St w d o3 → Calls Yba.prog 22 #[.pointer (some ⟨d, 0, none⟩)] w fun e w' => e = .returned (.int .i64 k) ∧ St w' d o4 ∧ w.grownBy w' (some d)))
    (hl : 0 < left o3) (hl2 : left o3 ≤ 2048) :
    Calls Yba.prog 7 #[.pointer (some ⟨d, 0, none⟩)] w fun e w' => e = .returned (.tuple #[.agg #[.int .u64 h, .int .i32 (wrap32 c), .int .i32 (wrap32 n)], .int .i64 k]) ∧ St w' d o4 ∧ w.grownBy w' (some d) := by
  have HS : Hid (St w d o0) := hs
  clear hs
  go_enter Yba.func7, Yba.ntmps7
  go_wp2_with fail
  refine (A1.out _ (HS.out.kept ((Below.refl _ _).alloc (Nat.le_refl _) _))).mono ?_
  rintro e w1 ⟨rfl, hD1, hg1⟩
  have HD1 : Hid (St w1 d o1) := hD1
  have HG1 : Hid ((w.alloc (.cells #[.int .u64 0, .int .i32 0, .int .i32 0] 27)).grownBy w1 (some d)) := hg1
  clear hD1 hg1
  go_wp2_with fail
  refine (A2.out _ HD1.out).mono ?_
  rintro e w2 ⟨rfl, hD2, hg2⟩
  have HD2 : Hid (St w2 d o2) := hD2
  have HG2 : Hid (w1.grownBy w2 (some d)) := hg2
  clear hD2 hg2
  go_wp2_with fail
  refine (A3.out _ HD2.out).mono ?_
  rintro e w3 ⟨rfl, hD3, hg3⟩
  have HD3 : Hid (St w3 d o3) := hD3
  have HG3 : Hid (w2.grownBy w3 (some d)) := hg3
  clear hD3 hg3
  obtain ⟨hd3l, p3, c3, dm3, hd3⟩ := HD3.out.cell
  obtain ⟨n3, hn3⟩ : ∃ n3, n3 = left o3 := ⟨_, rfl⟩
  rw [← hn3] at hd3 hl hl2
  clear hn3
  have e0 := two_cell0 hd3
  clear hd3
  go_wp2_with fail
  refine (A4.out _ (HD3.out.kept ((Below.refl _ _).alloc (Nat.le_refl _) _))).mono ?_
  rintro e w4 ⟨rfl, hD4, hg4⟩
  have HD4 : Hid (St w4 d o4) := hD4
  have HG4 : Hid ((w3.alloc (.cells #[.int .u64 h, .int .i32 (wrap32 c), .int .i32 (wrap32 n)] 27)).grownBy w4 (some d)) := hg4
  clear hD4 hg4
  obtain ⟨b1, b2, hsz, HG⟩ := blocks_two (show d < w.heap.size from HS.out.cell.1) HG1.out HG2.out HG3.out HG4.out
  have HB1 := (show Hid (w4.heap[w.heap.size]? = _) from b1)
  obtain ⟨x0, x1, x2, xf⟩ := three b1
  obtain ⟨y0, y1, y2, yf⟩ := three b2
  have HHG : Hid (w.grownBy w4 (some d)) := HG
  clear b1 b2 HG
  go_wp2_with fail
  refine bodyPost_ret (v := .tuple #[.agg #[.int .u64 h, .int .i32 (wrap32 c), .int .i32 (wrap32 n)], .int .i64 k]) (by simp [results, Yba.results7, go_sem, x0, x1, x2]) rfl ⟨rfl, ?_⟩
  have G5 := grown_trans (grown_trans (grown_set w4 w.heap.size 0 (.int .u64 h)) (grown_set _ w.heap.size 1 (.int .i32 (wrap32 c)))) (grown_set _ w.heap.size 2 (.int .i32 (wrap32 n)))
  exact ⟨HD4.out.store HB1.out G5, grown_new HHG.out G5 (Nat.le_refl _)⟩

set_option maxHeartbeats 1600000 in
theorem posting_zero (d : Nat) (o0 o1 o2 o3 : Option (List UInt8)) (h c n : Int) (w : World) (hs : St w d o0)
    (A1 : Hid (∀ w, St w d o0 → Calls Yba.prog 19 #[.pointer (some ⟨d, 0, none⟩)] w fun e w' => e = .returned (.int .u64 h) ∧ St w' d o1 ∧ w.grownBy w' (some d)))
    (A2 : Hid (∀ w, St w d o1 → Calls Yba.prog 20 #[.pointer (some ⟨d, 0, none⟩)] w fun e w' => e = .returned (.int .u32 c) ∧ St w' d o2 ∧ w.grownBy w' (some d)))
    (A3 : Hid (∀ w, St w d o2 → Calls Yba.prog 21 #[.pointer (some ⟨d, 0, none⟩)] w fun e w' => e = .returned (.int .u64 n) ∧ St w' d o3 ∧ w.grownBy w' (some d)))
    (hl : left o3 = 0) :
    Calls Yba.prog 7 #[.pointer (some ⟨d, 0, none⟩)] w fun e w' => e = .returned (.tuple #[.agg #[.int .u64 h, .int .i32 (wrap32 c), .int .i32 (wrap32 n)], .int .i64 0]) ∧ St w' d o3 ∧ w.grownBy w' (some d) := by
  have HS : Hid (St w d o0) := hs
  clear hs
  go_enter Yba.func7, Yba.ntmps7
  go_wp2_with fail
  refine (A1.out _ (HS.out.kept ((Below.refl _ _).alloc (Nat.le_refl _) _))).mono ?_
  rintro e w1 ⟨rfl, hD1, hg1⟩
  have HD1 : Hid (St w1 d o1) := hD1
  have HG1 : Hid ((w.alloc (.cells #[.int .u64 0, .int .i32 0, .int .i32 0] 27)).grownBy w1 (some d)) := hg1
  clear hD1 hg1
  go_wp2_with fail
  refine (A2.out _ HD1.out).mono ?_
  rintro e w2 ⟨rfl, hD2, hg2⟩
  have HD2 : Hid (St w2 d o2) := hD2
  have HG2 : Hid (w1.grownBy w2 (some d)) := hg2
  clear hD2 hg2
  go_wp2_with fail
  refine (A3.out _ HD2.out).mono ?_
  rintro e w3 ⟨rfl, hD3, hg3⟩
  have HD3 : Hid (St w3 d o3) := hD3
  have HG3 : Hid (w2.grownBy w3 (some d)) := hg3
  clear hD3 hg3
  obtain ⟨hd3l, p3, c3, dm3, hd3⟩ := HD3.out.cell
  rw [hl] at hd3
  clear hl
  have e0 := two_cell0 hd3
  clear hd3
  obtain ⟨b1, b2, hsz, HG⟩ := blocks_two (show d < w.heap.size from HS.out.cell.1) HG1.out HG2.out HG3.out (World.grownBy.refl (w3.alloc (.cells #[.int .u64 h, .int .i32 (wrap32 c), .int .i32 (wrap32 n)] 27)) _)
  have b3 : w3.heap[w.heap.size]? = some (.cells #[.int .u64 0, .int .i32 0, .int .i32 0] 27 (0, 0)) := by rw [← Below.heap_alloc w3 _ _ hsz]; exact b1
  obtain ⟨x0, x1, x2, xf⟩ := three b3
  clear b1 b2 HG
  have b5 := three_set (x' := .int .u64 h) (y' := .int .i32 (wrap32 c)) (z' := .int .i32 (wrap32 n)) b3
  have b6 : ((((w3.setCell ⟨w.heap.size, 0, none⟩ (.int .u64 h)).setCell ⟨w.heap.size, 1, none⟩ (.int .i32 (wrap32 c))).setCell ⟨w.heap.size, 2, none⟩ (.int .i32 (wrap32 n))).alloc (.cells #[.int .u64 h, .int .i32 (wrap32 c), .int .i32 (wrap32 n)] 27)).heap[w.heap.size]? = some (.cells #[.int .u64 h, .int .i32 (wrap32 c), .int .i32 (wrap32 n)] 27 (0, 0)) := by
    rw [Below.heap_alloc _ _ _ (by rw [size_set3]; exact hsz)]; exact b5
  have HB3 : Hid (w3.heap[w.heap.size]? = some (.cells #[.int .u64 0, .int .i32 0, .int .i32 0] 27 (0, 0))) := b3
  have E := three b6
  have HE := (show Hid _ from E)
  have G5 := grown_trans (grown_trans (grown_set w3 w.heap.size 0 (.int .u64 h)) (grown_set _ w.heap.size 1 (.int .i32 (wrap32 c)))) (grown_set _ w.heap.size 2 (.int .i32 (wrap32 n)))
  have R : Hid (St ((((w3.setCell ⟨w.heap.size, 0, none⟩ (.int .u64 h)).setCell ⟨w.heap.size, 1, none⟩ (.int .i32 (wrap32 c))).setCell ⟨w.heap.size, 2, none⟩ (.int .i32 (wrap32 n))).alloc (.cells #[.int .u64 h, .int .i32 (wrap32 c), .int .i32 (wrap32 n)] 27)) d o3 ∧ w.grownBy ((((w3.setCell ⟨w.heap.size, 0, none⟩ (.int .u64 h)).setCell ⟨w.heap.size, 1, none⟩ (.int .i32 (wrap32 c))).setCell ⟨w.heap.size, 2, none⟩ (.int .i32 (wrap32 n))).alloc (.cells #[.int .u64 h, .int .i32 (wrap32 c), .int .i32 (wrap32 n)] 27)) (some d)) :=
    ⟨(HD3.out.store b3 G5).kept ((Below.refl _ _).alloc (Nat.le_refl _) _), grown_trans (grown_new (grown_trans (World.grownBy_alloc w _ _) (grown_trans HG1.out (grown_trans HG2.out HG3.out))) G5 (Nat.le_refl _)) (World.grownBy_alloc _ _ _)⟩
  clear b5 b6 b3 E G5
  go_wp2_with fail
  have E0 := HE.out.1
  have E1 := HE.out.2.1
  have E2 := HE.out.2.2.1
  exact bodyPost_ret (v := .tuple #[.agg #[.int .u64 h, .int .i32 (wrap32 c), .int .i32 (wrap32 n)], .int .i64 0]) (by simp [results, Yba.results7, go_sem, E0, E1, E2]) rfl ⟨rfl, R.out⟩

end Go.Proofs.Ybulkwms
