/- The walk of 'LawS1139AFresh'. -/
import Derived.Test.YbulkwoiStart
import Derived.RegionTactic
import Derived.ChangeAlike
import Derived.BigRegion
namespace Go.Proofs.Ybulkwoi
open Go.RowKit
set_option linter.unusedVariables false

set_option maxHeartbeats 1600000 in
theorem walk_fresh (k : Int) (w : World) (h0 : 0 ≤ k) (h1 : k ≤ 255) : Calls Yba.prog 4 #[.int .u8 k] w fun e w' => e = .returned (.bool true) ∧ Below w.heap.size w w' := by
  obtain ⟨j, hj⟩ : ∃ j : Nat, j = (k % 10).toNat := ⟨_, rfl⟩
  have hj10 : j < 10 := by omega
  have hjk : k % 10 = (j : Int) := by omega
  clear hj
  go_enter Yba.func4, Yba.ntmps4
  go_wp2_with fail
  refine (start_zero' _).mono ?_
  rintro e w1 ⟨b1, b2, rfl, hle, hlt, HH⟩
  have c2 := one_cell HH.out.1
  have c1 : w1.cell? ⟨b1, j, none⟩ = some (.int .u8 (hello.getD j 0)) := by
    have hl : j < hello.length := hj10
    simp [World.cell?, HH.out.2.1, hl]
  have f1 : w1.frozen? ⟨b1, j, none⟩ = false := by
    simp [World.frozen?, HH.out.2.1]; omega
  go_wp2_with fail
  have hji : (j : Int) < 10 := by omega
  go_region
  go_wp2_with fail
  refine (start_zero' _).mono ?_
  rintro e w2 ⟨b3, b4, rfl, hle2, hlt2, HH2⟩
  have c4 := one_cell HH2.out.1
  have HB : Hid (Below w.heap.size w w2) := by
    have q1 : Below w.heap.size w w1 := ((Below.refl _ _).alloc (Nat.le_refl _) _).trans (HH.out.2.2.mono (by simp))
    have q2 := (q1.setCell (p := ⟨b1, j, none⟩) (by have : w.heap.size + 1 ≤ b1 := by simpa using hle
                                                    show w.heap.size ≤ b1
                                                    omega) (.int .u8 ((hello[j]?.getD 0 + 1) % 256))).drew
    exact q2.trans (HH2.out.2.2.mono q2.size)
  clear c2 c1 f1 HH hle2
  go_wp2_with fail
  refine (is_hello b3 w2 (10, 11) HH2.out.2.1).mono ?_
  rintro e w3 ⟨rfl, m, rfl⟩
  go_wp2_with fail
  go_ret
  exact ⟨rfl, below_drewN HB.out _⟩

end Go.Proofs.Ybulkwoi
