/- '(multicastSim).Start' and 'zzs1139aisSendHello'. -/
import Derived.Test.YbulkwoiRows
import Derived.WalkKit
import Derived.WalkSpells
import Derived.WalkLawsBesides
import Derived.ProofKit
import Derived.OpenShut
import Derived.Below
import Derived.Deep.QuietTactic
import Derived.BigQuiet
import Derived.Outline
import Derived.Lib.SlBytesConst
namespace Go.Proofs.Ybulkwoi
open Go.RowKit
set_option linter.unusedVariables false

/-- The bytes of "send hello". -/
def hello : List Int := [115, 101, 110, 100, 32, 104, 101, 108, 108, 111]

theorem blocks3 (w : World) (A B C : Obj) : (((w.alloc A).alloc B).alloc C).heap.size = w.heap.size + 3 ∧ (((w.alloc A).alloc B).alloc C).heap[w.heap.size + 2]? = some C ∧ (((w.alloc A).alloc B).alloc C).heap[w.heap.size + 1]? = some B ∧ Below w.heap.size w (((w.alloc A).alloc B).alloc C) := by
  have h1 : ((w.alloc A).alloc B).heap.size = w.heap.size + 2 := by rw [World.size_alloc, World.size_alloc]
  have h0 : (w.alloc A).heap.size = w.heap.size + 1 := World.size_alloc _ _
  refine ⟨by rw [World.size_alloc, h1], ?_, ?_, (((Below.refl _ _).alloc (Nat.le_refl _) _).alloc (by omega) _).alloc (by omega) _⟩
  · rw [← h1]; exact heap_alloc_new _ _
  · rw [Below.heap_alloc _ _ _ (by omega), ← h0]; exact heap_alloc_new _ _

set_option maxHeartbeats 400000 in
theorem start_zero (w : World) :
    Calls Yba.prog 5 #[.agg #[], .pointer none, .int .i64 0] w fun e w' => e = .returned (.slice (some ⟨w.heap.size + 2, 0, none⟩) 1 1) ∧ w'.heap.size = w.heap.size + 3 ∧
      w'.heap[w.heap.size + 2]? = some (.cells #[.slice (some ⟨w.heap.size + 1, 0, none⟩) 10 10] 27 (0, 0)) ∧ w'.heap[w.heap.size + 1]? = some (.cells (hello.map (Value.int .u8)).toArray 5 (10, 11)) ∧ Below w.heap.size w w' := by
  have kc : (convert 27 27 (.slice (some ⟨w.heap.size + 1, 0, none⟩) 10 10)).run Yba.prog ((w.alloc (.cells #[] 23)).alloc (.cells #[.int .u8 115, .int .u8 101, .int .u8 110, .int .u8 100, .int .u8 32, .int .u8 104, .int .u8 101, .int .u8 108, .int .u8 108, .int .u8 111] 5)) =
      .ok (.slice (some ⟨w.heap.size + 1, 0, none⟩) 10 10) ((w.alloc (.cells #[] 23)).alloc (.cells #[.int .u8 115, .int .u8 101, .int .u8 110, .int .u8 100, .int .u8 32, .int .u8 104, .int .u8 101, .int .u8 108, .int .u8 108, .int .u8 111] 5 (10, 11))) := by
    have h := Lib.run_convert_bytes_const (P := Yba.prog) (w.alloc (.cells #[] 23)) 27 5 #[.int .u8 115, .int .u8 101, .int .u8 110, .int .u8 100, .int .u8 32, .int .u8 104, .int .u8 101, .int .u8 108, .int .u8 108, .int .u8 111] 10 10 Yba.underlying27 Yba.underlying5
    rw [World.size_alloc] at h
    exact h
  go_enter Yba.func5, Yba.ntmps5
  go_wp2
  go_ret
  exact ⟨rfl, blocks3 _ _ _ _⟩

set_option maxHeartbeats 400000 in
theorem start_other (h : Int) (w : World) (h0 : (h != 0) = true) :
    Calls Yba.prog 5 #[.agg #[], .pointer none, .int .i64 h] w fun e w' => e = .returned (.slice none 0 0) ∧ Below w.heap.size w w' := by
  go_enter Yba.func5, Yba.ntmps5
  go_wp2
  go_ret
  exact ⟨rfl, (Below.refl _ _).alloc (Nat.le_refl _) _⟩

theorem hello_at (k : Nat) (h : k < 10) : (hello[k]?.getD 0 != ((({ data := #[115, 101, 110, 100, 32, 104, 101, 108, 108, 111] } : ByteArray)[k]'h).toNat : Int)) = false := by
  have : k = 0 ∨ k = 1 ∨ k = 2 ∨ k = 3 ∨ k = 4 ∨ k = 5 ∨ k = 6 ∨ k = 7 ∨ k = 8 ∨ k = 9 := by omega
  rcases this with rfl | rfl | rfl | rfl | rfl | rfl | rfl | rfl | rfl | rfl <;> rfl

set_option maxHeartbeats 1600000 in
theorem is_hello (g : Nat) (w : World) (fr : Nat × Nat) (hb : w.heap[g]? = some (.cells (hello.map (Value.int .u8)).toArray 5 fr)) :
    Calls Yba.prog 6 #[.slice (some ⟨g, 0, none⟩) 10 10] w fun e w' => e = .returned (.bool true) ∧ ∃ m, w' = w.drewN m := by
  have hc : ∀ j, j < 10 → w.cell? ⟨g, j, none⟩ = some (.int .u8 (hello.getD j 0)) := by
    intro j hj
    have hl : j < hello.length := hj
    simp [World.cell?, hb, hl]
  have HC := (show Hid _ from hc)
  clear hc hb
  go_enter Yba.func6, Yba.ntmps6
  go_wp2
  go_loopw [4] (fun i wr => ∃ k m : Nat, k ≤ 10 ∧ i = .int .i64 k ∧ wr = w.drewN m) (fun i _ => 10 - (intOf i).toNat)
  case atStart => exact ⟨0, 0, by omega, rfl, rfl⟩
  case round =>
    obtain ⟨k, m, hk, rfl, rfl⟩ := hrel
    by_cases hlt : k < 10
    · have e1 := HC.out k hlt
      have hkl : (k : Int) < 10 := by omega
      go_wp2
      go_quiet (fail)
      go_wp2
      · have hb : (hello[k]?.getD 0 != ((({ data := #[115, 101, 110, 100, 32, 104, 101, 108, 108, 111] } : ByteArray)[k]'hlt).toNat : Int)) = true := by assumption
        rw [hello_at k hlt] at hb
        cases hb
      · go_roundw
        case rel => exact ⟨k + 1, m + nq, by omega, by go_num, rfl⟩
        case measure => simp [intOf]; omega
    · go_wp2
      go_ret
      exact ⟨rfl, m, rfl⟩

theorem start_zero' (w : World) :
    Calls Yba.prog 5 #[.agg #[], .pointer none, .int .i64 0] w fun e w' => ∃ b1 b2, e = .returned (.slice (some ⟨b2, 0, none⟩) 1 1) ∧ w.heap.size ≤ b1 ∧ b1 < b2 ∧
      Hid (w'.heap[b2]? = some (.cells #[.slice (some ⟨b1, 0, none⟩) 10 10] 27 (0, 0)) ∧ w'.heap[b1]? = some (.cells (hello.map (Value.int .u8)).toArray 5 (10, 11)) ∧ Below w.heap.size w w') := by
  refine (start_zero w).mono ?_
  rintro e w' ⟨rfl, hsz, h2, h1, hb⟩
  exact ⟨_, _, rfl, by omega, by omega, h2, h1, hb⟩

theorem one_cell {w : World} {b : Nat} {v : Value} {t : TypeId} {fr : Nat × Nat} (h : w.heap[b]? = some (.cells #[v] t fr)) : w.cell? ⟨b, 0, none⟩ = some v := by simp [World.cell?, h]

set_option maxHeartbeats 800000 in
theorem walk_zero (w : World) : Calls Yba.prog 3 #[.int .i64 0] w fun e w' => e = .returned (.bool true) ∧ Below w.heap.size w w' := by
  go_enter Yba.func3, Yba.ntmps3
  go_wp2_with fail
  refine (start_zero' _).mono ?_
  rintro e w1 ⟨b1, b2, rfl, hle, hlt, HH⟩
  have c2 := one_cell HH.out.1
  go_wp2_with fail
  refine (is_hello b1 w1 (10, 11) HH.out.2.1).mono ?_
  rintro e w2 ⟨rfl, m, rfl⟩
  go_wp2_with fail
  go_ret
  exact ⟨rfl, below_drewN (((Below.refl _ _).alloc (Nat.le_refl _) _).trans (HH.out.2.2.mono (by simp))) _⟩

set_option maxHeartbeats 800000 in
theorem walk_other (h : Int) (w : World) (h0 : (h != 0) = true) : Calls Yba.prog 3 #[.int .i64 h] w fun e w' => e = .returned (.bool true) ∧ Below w.heap.size w w' := by
  have hnil := fun (w : World) => Lib.run_eql_slice_nil (P := Yba.prog) w 24 27 none 0 0 0 0 Yba.underlying24
  go_enter Yba.func3, Yba.ntmps3
  go_wp2_with fail
  refine (start_other h _ h0).mono ?_
  rintro e w1 ⟨rfl, hb⟩
  have HB : Hid (Below w.heap.size w w1) := ((Below.refl _ _).alloc (Nat.le_refl _) _).trans (hb.mono (by simp))
  clear hb
  go_wp2_with fail
  go_ret
  exact ⟨rfl, HB.out⟩

end Go.Proofs.Ybulkwoi
