/- The walk of 'LawS1136BNext'. -/
import Derived.Test.YbulkwmsNext
namespace Go.Proofs.Ybulkwms.lawS1136BNext
open Go.RowKit

set_option maxHeartbeats 400000 in
theorem walk_long (a0 : Option Addr) (len0 cap0 : Nat) (a1 : Bool) (w : World) (h : 1024 < len0) (hm : len0 ≤ maxLen) :
    Calls Yba.prog 5 #[.slice a0 len0 cap0, .bool a1] w fun e w' => e = .returned (.bool true) ∧ Below w.heap.size w w' := by
  unfold maxLen at hm
  go_enter Yba.func5, Yba.ntmps5
  go_wp2
  go_ret
  exact ⟨rfl, Below.refl _ _⟩

theorem cells_take {w : World} {x : Addr} {len : Nat} {zs : List Int} (hz : len ≤ zs.length) (hc : ∀ i, i < len → w.cell? (x.add i) = some (.int .u8 (zs.getD i 0))) :
    ∀ j v, ((zs.take len).map (Value.int .u8))[j]? = some v → w.cell? (x.add j) = some v := by
  intro j v hj
  have hj' : j < len := by
    have := (List.getElem?_eq_some_iff.1 hj).1
    simp at this; omega
  rw [List.getElem?_map, List.getElem?_take, if_pos hj'] at hj
  simp at hj
  obtain ⟨z, hzj, rfl⟩ := hj
  rw [hc j hj']
  simp [hzj]

/-- 'copy(cp, line)' into the row just made. -/
theorem copy_made (w1 : World) (g len cap : Nat) (x : Addr) (zs : List Int) (xs : List Value) (hz : len ≤ zs.length) (hm : len ≤ maxLen)
    (hc : ∀ i, i < len → w1.cell? (x.add i) = some (.int .u8 (zs.getD i 0))) (ho : w1.ownsRow g 5 1 (.slice (some ⟨g, 0, none⟩) len len) len xs) :
    ∃ w2, (Builtin.copy_ #[22, 22] 3 #[.slice (some ⟨g, 0, none⟩) len len, .slice (some x) len cap]).run Yba.prog w1 = .ok (.int .i64 len) w2 ∧
      w2.ownsRow g 5 1 (.slice (some ⟨g, 0, none⟩) len len) len ((zs.take len).map (Value.int .u8)) ∧ Below g w1 w2 := by
  have hL : ((zs.take len).map (Value.int .u8)).length = len := by simp; omega
  rcases ho.2 with ⟨h, _⟩ | ⟨g', cap', cur, hv, _, hg, _, _, hs, _⟩
  · simp at h
  · simp at hv
    obtain ⟨rfl, rfl⟩ := hv
    have hr := run_copy_row (P := Yba.prog) w1 22 22 3 5 g 0 len len x len cap cur 5 ((zs.take len).map (Value.int .u8)) Yba.underlying22 (by kernel_rfl) hg (by rw [hL]; exact (Nat.min_self _).symm) (cells_take hz hc) (by omega) (ints_oneCell _ _)
    refine ⟨_, by rw [hr, hL]; rfl, ⟨by omega, .inr ⟨g, len, _, rfl, Nat.le_refl _, setRow_heap w1 g cur _ 5 _ hg, Nat.le_refl _, hm, ?_, ?_⟩⟩, below_setRow (Below.refl _ _) (Nat.le_refl _) _⟩
    · simp; omega
    · simp only [Nat.mul_one, List.take_zero, List.nil_append]
      exact List.take_left' hL

theorem own_cells {w : World} {B g n cap len : Nat} {zs : List Int} {ys : List Value} (h : w.ownsRow B 5 1 (.slice (some ⟨g, 0, none⟩) n cap) n ((zs.take len).map (Value.int .u8) ++ ys)) (hz : len ≤ zs.length) (hn : len ≤ n) :
    ∀ j, j < len → w.cell? ⟨g, j, none⟩ = some (.int .u8 (zs.getD j 0)) := by
  intro j hj
  rw [h.cellAt j (by omega), List.getElem?_append_left (by simp; omega)]
  simp [hj, show j < zs.length by omega]

set_option maxHeartbeats 800000 in
theorem walk_row_no (x : Addr) (len cap : Nat) (zs : List Int) (w : World) (hl : len ≤ 1024) (hlc : len ≤ cap) (hz : zs.length = cap)
    (hc : ∀ i, i < zs.length → w.cell? (x.add i) = some (.int .u8 (zs.getD i 0))) :
    Calls Yba.prog 5 #[.slice (some x) len cap, .bool false] w fun e w' => e = .returned (.bool true) ∧ Below w.heap.size w w' := by
  have hneq := fun (w : World) (a : Option Addr) (n c : Nat) => run_neq_slice_nil_any (P := Yba.prog) w 22 5 a n c 0 0 Yba.underlying22
  obtain ⟨i0, hi, hz0, hz1, hz2⟩ := info_parts info5
  have HCELL := (show Hid _ from hc)
  clear hc
  go_enter Yba.func5, Yba.ntmps5
  go_wp2_with (at_make; refine wpList_make_full _ rfl _ _ 22 rfl w.heap.size 5 i0 (.int .u8 0) 1 Yba.underlying22 hi hz0 hz1 _ _ _ _ len rfl rfl (by omega) (by omega) (by rw [hz2]; omega) (by unfold maxLen; omega) (Nat.le_refl _) ?_)
  intro w1 hown1 hgrow1
  have hbel1 : Below w.heap.size w w1 := (Below.refl _ _).grown hgrow1 (Nat.le_refl _) (fun k hk => by cases hk)
  obtain ⟨w2, hrun, hown2, hbel2⟩ := copy_made w1 w.heap.size len cap x zs _ (by omega) (by unfold maxLen; omega) (fun i hi => by rw [hbel1.cell (World.block_lt_of_cell? _ _ (HCELL.out i (by omega)))]; exact HCELL.out i (by omega)) hown1
  have HB : Hid (Below w.heap.size w w2) := hbel1.trans hbel2
  have hsz : w.heap.size < w2.heap.size := (hown2.lt _ rfl).2
  clear hown1 hgrow1 hbel1 hbel2
  go_wp2_with fail
  refine (next_no' w.heap.size w2.heap.size len _ _ _ (heap_alloc_new w2 _) (hown2.alloc _) (by omega)).mono ?_
  rintro e w3 ⟨rfl, hb3, hown3, hbel3⟩
  have c0 := two_cell0 hb3
  have c1 := two_cell1 hb3
  have hrow := own_cells (ys := []) (by simpa using hown3) (by omega) (Nat.le_refl _)
  have HB3 : Hid (Below w.heap.size w w3) := (HB.out.alloc (by omega) _).trans hbel3
  have hline : ∀ j, j < len → w3.cell? (x.add j) = some (.int .u8 (zs.getD j 0)) := by
    intro j hj
    have h := HCELL.out j (by omega)
    rw [HB3.out.cell (World.block_lt_of_cell? _ _ h)]
    exact h
  have HROW := (show Hid _ from hrow)
  have HLINE := (show Hid _ from hline)
  clear hown2 hb3 hown3 hbel3 hrow hline hrun hneq hi hz0 hz1 hz2
  go_wp2
  go_loopw [8] (fun i wr => ∃ k m : Nat, k ≤ len ∧ i = .int .i64 k ∧ wr = w3.drewN m) (fun i _ => len - (intOf i).toNat)
  case atStart => exact ⟨0, 0, by omega, rfl, rfl⟩
  case round =>
    obtain ⟨k, m, hk, rfl, rfl⟩ := hrel
    by_cases hlt : k < len
    · have e1 := HROW.out k hlt
      have e2 := HLINE.out k hlt
      have hkl : (k : Int) < (len : Int) := by omega
      go_wp2
      go_quiet (fail)
      go_wp2
      go_roundw
      case rel => exact ⟨k + 1, m + nq, by omega, by go_num, rfl⟩
      case measure => simp [intOf]; omega
    · go_wp2
      go_ret
      exact ⟨rfl, below_drewN HB3.out _⟩

set_option maxHeartbeats 800000 in
theorem walk_row_yes (x : Addr) (len cap : Nat) (zs : List Int) (w : World) (hl : len ≤ 1024) (hlc : len ≤ cap) (hz : zs.length = cap)
    (hc : ∀ i, i < zs.length → w.cell? (x.add i) = some (.int .u8 (zs.getD i 0))) :
    Calls Yba.prog 5 #[.slice (some x) len cap, .bool true] w fun e w' => e = .returned (.bool true) ∧ Below w.heap.size w w' := by
  have hneq := fun (w : World) (a : Option Addr) (n c : Nat) => run_neq_slice_nil_any (P := Yba.prog) w 22 5 a n c 0 0 Yba.underlying22
  obtain ⟨i0, hi, hz0, hz1, hz2⟩ := info_parts info5
  have HCELL := (show Hid _ from hc)
  clear hc
  go_enter Yba.func5, Yba.ntmps5
  go_wp2_with (at_make; refine wpList_make_full _ rfl _ _ 22 rfl w.heap.size 5 i0 (.int .u8 0) 1 Yba.underlying22 hi hz0 hz1 _ _ _ _ len rfl rfl (by omega) (by omega) (by rw [hz2]; omega) (by unfold maxLen; omega) (Nat.le_refl _) ?_)
  intro w1 hown1 hgrow1
  have hbel1 : Below w.heap.size w w1 := (Below.refl _ _).grown hgrow1 (Nat.le_refl _) (fun k hk => by cases hk)
  obtain ⟨w2, hrun, hown2, hbel2⟩ := copy_made w1 w.heap.size len cap x zs _ (by omega) (by unfold maxLen; omega) (fun i hi => by rw [hbel1.cell (World.block_lt_of_cell? _ _ (HCELL.out i (by omega)))]; exact HCELL.out i (by omega)) hown1
  have HB : Hid (Below w.heap.size w w2) := hbel1.trans hbel2
  have hsz : w.heap.size < w2.heap.size := (hown2.lt _ rfl).2
  clear hown1 hgrow1 hbel1 hbel2
  go_wp2_with fail
  refine (next_yes w.heap.size w2.heap.size len _ _ _ (heap_alloc_new w2 _) (hown2.alloc _) (by omega) hl).mono ?_
  rintro e w3 ⟨rfl, g, cap', hb3, hown3, hbel3⟩
  have c0 := two_cell0 hb3
  have c1 := two_cell1 hb3
  have hrow := own_cells hown3 (by omega) (by omega)
  have HB3 : Hid (Below w.heap.size w w3) := (HB.out.alloc (by omega) _).trans hbel3
  have hline : ∀ j, j < len → w3.cell? (x.add j) = some (.int .u8 (zs.getD j 0)) := by
    intro j hj
    have h := HCELL.out j (by omega)
    rw [HB3.out.cell (World.block_lt_of_cell? _ _ h)]
    exact h
  have HROW := (show Hid _ from hrow)
  have HLINE := (show Hid _ from hline)
  have htab : w3.cell? ⟨g, len, none⟩ = some (.int .u8 9) := by
    rw [hown3.cellAt len (by omega), List.getElem?_append_right (by simp; omega)]
    simp [show min len zs.length = len by omega]
  clear hown2 hb3 hown3 hbel3 hrow hline hrun hneq hi hz0 hz1 hz2
  go_wp2
  go_loopw [8] (fun i wr => ∃ k m : Nat, k ≤ len ∧ i = .int .i64 k ∧ wr = w3.drewN m) (fun i _ => len - (intOf i).toNat)
  case atStart => exact ⟨0, 0, by omega, rfl, rfl⟩
  case round =>
    obtain ⟨k, m, hk, rfl, rfl⟩ := hrel
    by_cases hlt : k < len
    · have e1 := HROW.out k hlt
      have e2 := HLINE.out k hlt
      have hkl : (k : Int) < (len : Int) := by omega
      go_wp2
      go_quiet (fail)
      go_wp2
      go_roundw
      case rel => exact ⟨k + 1, m + nq, by omega, by go_num, rfl⟩
      case measure => simp [intOf]; omega
    · go_wp2
      go_ret
      exact ⟨rfl, below_drewN HB3.out _⟩

set_option maxHeartbeats 800000 in
theorem walk_nil_no (w : World) :
    Calls Yba.prog 5 #[.slice none 0 0, .bool false] w fun e w' => e = .returned (.bool true) ∧ Below w.heap.size w w' := by
  have hneq := fun (w : World) (a : Option Addr) (n c : Nat) => run_neq_slice_nil_any (P := Yba.prog) w 22 5 a n c 0 0 Yba.underlying22
  go_enter Yba.func5, Yba.ntmps5
  go_wp2_with fail
  refine (next_no' w.heap.size w.heap.size 0 _ _ _ (heap_alloc_new w _) (World.ownsRow_nil _ _ _ _) (Nat.le_refl _)).mono ?_
  rintro e w3 ⟨rfl, hb3, hown3, hbel3⟩
  have c0 := two_cell0 hb3
  have c1 := two_cell1 hb3
  have HB3 : Hid (Below w.heap.size w w3) := ((Below.refl _ _).alloc (Nat.le_refl _) _).trans hbel3
  clear hb3 hown3 hbel3 hneq
  go_wp2
  refine wp_loop_rounds 1 ?_
  rw [rounds_succ]
  go_wp2
  go_ret
  exact ⟨rfl, HB3.out⟩

set_option maxHeartbeats 800000 in
theorem walk_nil_yes (w : World) :
    Calls Yba.prog 5 #[.slice none 0 0, .bool true] w fun e w' => e = .returned (.bool true) ∧ Below w.heap.size w w' := by
  have hneq := fun (w : World) (a : Option Addr) (n c : Nat) => run_neq_slice_nil_any (P := Yba.prog) w 22 5 a n c 0 0 Yba.underlying22
  go_enter Yba.func5, Yba.ntmps5
  go_wp2_with fail
  refine (next_yes w.heap.size w.heap.size 0 _ _ _ (heap_alloc_new w _) (World.ownsRow_nil _ _ _ _) (Nat.le_refl _) (by omega)).mono ?_
  rintro e w3 ⟨rfl, g, cap', hb3, hown3, hbel3⟩
  have c0 := two_cell0 hb3
  have c1 := two_cell1 hb3
  have htab : w3.cell? ⟨g, 0, none⟩ = some (.int .u8 9) := by
    rw [hown3.cellAt 0 (by omega)]
    simp
  have HB3 : Hid (Below w.heap.size w w3) := ((Below.refl _ _).alloc (Nat.le_refl _) _).trans hbel3
  clear hb3 hown3 hbel3 hneq
  go_wp2
  refine wp_loop_rounds 1 ?_
  rw [rounds_succ]
  go_wp2
  go_ret
  exact ⟨rfl, HB3.out⟩

end Go.Proofs.Ybulkwms.lawS1136BNext
