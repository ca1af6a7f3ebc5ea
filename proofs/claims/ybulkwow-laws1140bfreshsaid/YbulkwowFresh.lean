/- The walk of 'LawS1140BFresh'. -/
import Derived.Test.YbulkwowNew
namespace Go.Proofs.Ybulkwow
open Go.RowKit
set_option linter.unusedVariables false

set_option maxHeartbeats 400000 in
theorem new_arena (w : World) : Calls Yba.prog 7 #[] w fun e w' => e = .returned (.agg #[.slice none 0 0, .slice none 0 0, .slice none 0 0, .int .i64 (-1), .int .i64 0, .int .i64 0, .slice none 0 0, .slice none 0 0, .pointer none]) ∧ Below w.heap.size w w' := by
  go_enter Yba.func7, Yba.ntmps7
  go_wp2
  exact bodyPost_ret (v := .agg #[.slice none 0 0, .slice none 0 0, .slice none 0 0, .int .i64 (-1), .int .i64 0, .int .i64 0, .slice none 0 0, .slice none 0 0, .pointer none]) (by simp [results, Yba.results7, go_sem]) rfl ⟨rfl, (Below.refl _ _).alloc (Nat.le_refl _) _⟩

/-- What the law's loop keeps. -/
def Inv (w : World) (b n : Nat) (wr : World) : Prop :=
  ∃ v1 v2 xs ys, Ar wr b v1 v2 (.slice none 0 0) (-1) 0 0 ∧ wr.ownsRow w.heap.size 23 1 v1 n xs ∧ wr.ownsRow w.heap.size 3 1 v2 n ys ∧ Below w.heap.size w wr

theorem Inv.drewN {w wr : World} {b n : Nat} (h : Inv w b n wr) (m : Nat) : Inv w b n (wr.drewN m) := by
  obtain ⟨v1, v2, xs, ys, a, b, c, d⟩ := h
  exact ⟨v1, v2, xs, ys, a, b, c, below_drewN d m⟩

set_option maxHeartbeats 1600000 in
theorem walk_fresh (k : Int) (w : World) (h0 : 0 ≤ k) (h1 : k ≤ 255) : Calls Yba.prog 4 #[.int .u8 k] w fun e w' => e = .returned (.bool true) ∧ Below w.heap.size w w' := by
  obtain ⟨c, hc⟩ : ∃ c : Nat, c = (k % 64).toNat := ⟨_, rfl⟩
  have hc64 : c < 64 := by omega
  have hck : k % 64 = (c : Int) := by omega
  clear hc
  go_enter Yba.func4, Yba.ntmps4
  go_wp2_with fail
  refine (new_arena w).mono ?_
  rintro e w1 ⟨rfl, hb1⟩
  have HI : Hid (Inv w w1.heap.size 0 (w1.alloc (.cells #[.slice none 0 0, .slice none 0 0, .slice none 0 0, .int .i64 (-1), .int .i64 0, .int .i64 0, .slice none 0 0, .slice none 0 0, .pointer none] 29))) :=
    ⟨_, _, _, _, heap_alloc_new w1 _, World.ownsRow_nil _ _ _ _, World.ownsRow_nil _ _ _ _, hb1.alloc hb1.size _⟩
  have hsz : w.heap.size ≤ w1.heap.size := hb1.size
  clear hb1
  go_wp2_with fail
  go_loopw [5] (fun i wr => ∃ n : Nat, n ≤ c ∧ i = .int .i64 n ∧ Inv w w1.heap.size n wr) (fun i _ => c - (intOf i).toNat)
  case atStart => exact ⟨0, by omega, rfl, HI.out⟩
  case round =>
    obtain ⟨n, hn, rfl, v1, v2, xs, ys, ha, ho1, ho2, hbel⟩ := hrel
    clear HI
    by_cases hlt : n < c
    · have hlr := ha.lt
      have hP := new_last w.heap.size w1.heap.size n v1 v2 none (some ⟨wr.heap.size, 0, none⟩) 0 1 1 (-1) 0 0 xs ys (wr.alloc (.cells #[.int .u8 (n : Int)] 5)) (ha.kept (Below.heap_alloc _ _ _ hlr)) (ho1.alloc _) (ho2.alloc _) hsz (by omega)
      have HK : Hid (Below w.heap.size w wr ∧ ∀ k, v1.ownBlock = some k ∨ v2.ownBlock = some k → w.heap.size ≤ k) := ⟨hbel, fun k hk => hk.elim (fun h => (ho1.lt k h).1) (fun h => (ho2.lt k h).1)⟩
      clear ha ho1 ho2 hbel
      go_wp2_with fail
      refine hP.mono ?_
      rintro e w2 ⟨rfl, g1, c1, g2, c2, ha2, p1, p2, kp⟩
      have hbel2 : Below w.heap.size w w2 := (HK.out.1.alloc HK.out.1.size _).trans (kp.below (by have := HK.out.1.size; simp; omega) (fun k hk q => by
        rcases q with rfl | q
        · omega
        · have := HK.out.2 k q; omega))
      obtain ⟨e0, e1, e2, e3, _, _⟩ := ha2.cells
      have x1 : w2.cell? ⟨g1, n, none⟩ = some (.slice (some ⟨wr.heap.size, 0, none⟩) 1 1) := by
        rw [p1.cellAt n (by omega), List.getElem?_append_right (by have := p1.1; simp at this; omega)]
        have := p1.1
        simp at this
        simp [this]
      have x2 : w2.cell? ⟨g2, n, none⟩ = some (.int .i64 0) := by
        rw [p2.cellAt n (by omega), List.getElem?_append_right (by have := p2.1; simp at this; omega)]
        have := p2.1
        simp at this
        simp [this]
      have R : Hid (Inv w w1.heap.size (n + 1) w2) := ⟨_, _, _, _, ha2, p1, p2, hbel2⟩
      clear hP ha2 p1 p2 kp hbel2 HK
      go_wp2_with fail
      refine (same_some wr.heap.size 1 1 _ (by omega) (by omega)).mono ?_
      rintro e w3 ⟨rfl, m, rfl⟩
      go_wp2_with fail
      go_roundw
      case rel => exact ⟨n + 1, by omega, by go_num, Inv.drewN R.out m⟩
      case measure => simp [intOf]; omega
    · obtain ⟨e0, e1, e2, e3, _, _⟩ := ha.cells
      clear ha ho1 ho2
      go_wp2_with fail
      go_ret
      exact ⟨rfl, hbel⟩

end Go.Proofs.Ybulkwow
