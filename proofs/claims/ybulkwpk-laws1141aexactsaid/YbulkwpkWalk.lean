/- The walks of 'gcd', 'secondsOf' and 'LawS1141AExact'. -/
import Derived.Test.YbulkwpkPlain
import Derived.WalkKit
import Derived.WalkSpells
import Derived.WalkLawsBesides
import Derived.ProofKit
import Derived.OpenShut
import Derived.Below
import Derived.Deep.QuietTactic
import Derived.BigQuiet
import Derived.RegionTactic
import Derived.ChangeAlike
import Derived.BigRegion
import Derived.Outline
namespace Go.Proofs.Ybulkwpk
open Go.RowKit
set_option linter.unusedVariables false

set_option maxHeartbeats 800000 in
theorem gcd_any (x y : Nat) (hx : x ≤ 18446744073709551615) (hy : y ≤ 18446744073709551615) (w : World) :
    Calls Yba.prog 12 #[.int .u64 (x : Int), .int .u64 (y : Int)] w fun e w' => e = .returned (.int .u64 (Nat.gcd x y : Int)) ∧ ∃ m, w' = w.drewN m := by
  go_enter Yba.func12, Yba.ntmps12
  go_wp2
  go_loopw [0, 1] (fun s t wr => ∃ a b m : Nat, a ≤ 18446744073709551615 ∧ b ≤ 18446744073709551615 ∧ s = .int .u64 (a : Int) ∧ t = .int .u64 (b : Int) ∧ Hid (Nat.gcd a b = Nat.gcd x y) ∧ wr = w.drewN m) (fun _ t _ => (intOf t).toNat)
  case atStart => exact ⟨x, y, 0, hx, hy, rfl, rfl, rfl, rfl⟩
  case round =>
    obtain ⟨a, b, m, ha, hb, rfl, rfl, hg, rfl⟩ := hrel
    by_cases h0 : b = 0
    · subst h0
      have hg2 : Hid (a = Nat.gcd x y) := by have := hg.out; rw [Nat.gcd_zero_right] at this; exact this
      go_wp2
      go_ret
      exact ⟨by rw [← hg2.out]; rfl, m, rfl⟩
    · have hbp : (0 : Int) < (b : Int) := by omega
      have hne : ((b : Int) != 0) = true := by simp; omega
      go_wp2
      go_quiet (fail)
      go_wp2
      have hmod : a % b < b := Nat.mod_lt _ (by omega)
      go_roundw
      case rel =>
        refine ⟨b, a % b, m + nq, hb, by omega, rfl, ?_, ?_, World.drewN_drewN _ _ _⟩
        · rw [Int.natCast_emod]
        · show Nat.gcd b (a % b) = Nat.gcd x y
          rw [Nat.gcd_comm, ← Nat.gcd_rec, Nat.gcd_comm]
          exact hg.out
      case measure =>
        simp only [intOf]
        rw [← Int.natCast_emod]
        omega

set_option maxHeartbeats 800000 in
theorem seconds_no (x g q : Nat) (hx : x ≤ 18446744073709551615) (hg : g = Nat.gcd x 1000000000) (hg0 : 0 < g) (hq : q = x / g) (hlt : 4294967295 < q) (w : World) :
    Calls Yba.prog 7 #[.int .u64 (x : Int)] w fun e w' => e = .returned (.tuple #[.agg #[.int .u32 0, .int .u32 0], .bool false]) ∧ Below w.heap.size w w' := by
  have hG := gcd_any x 1000000000 hx (by omega) (w.alloc (.cells #[.int .u32 0, .int .u32 0] 25))
  rw [← hg] at hG
  have hgi : (0 : Int) < (g : Int) := by omega
  have hqi : (x : Int) / (g : Int) = (q : Int) := by rw [hq, Int.natCast_ediv]
  have hqb : q ≤ x := by rw [hq]; exact Nat.div_le_self _ _
  have hgb : g ≤ 1000000000 := by rw [hg]; exact Nat.gcd_le_right _ (by omega)
  clear hg hq
  go_enter Yba.func7, Yba.ntmps7
  go_wp2_with fail
  refine hG.mono ?_
  rintro e w1 ⟨rfl, m, rfl⟩
  go_wp2_with fail
  exact bodyPost_ret (v := .tuple #[.agg #[.int .u32 0, .int .u32 0], .bool false]) (by simp [results, Yba.results7, go_sem]) rfl ⟨rfl, ((below_drewN ((Below.refl _ _).alloc (Nat.le_refl _) _) _).setCell (Nat.le_refl _) _).setCell (Nat.le_refl _) _⟩

set_option maxHeartbeats 1600000 in
theorem seconds_yes (x g q d : Nat) (hx : x ≤ 18446744073709551615) (hg : g = Nat.gcd x 1000000000) (hg0 : 0 < g) (hq : q = x / g) (hd : d = 1000000000 / g) (hle : q ≤ 4294967295) (w : World) :
    Calls Yba.prog 7 #[.int .u64 (x : Int)] w fun e w' => e = .returned (.tuple #[.agg #[.int .u32 (q : Int), .int .u32 (d : Int)], .bool true]) ∧ Below w.heap.size w w' := by
  have hG := gcd_any x 1000000000 hx (by omega) (w.alloc (.cells #[.int .u32 0, .int .u32 0] 25))
  rw [← hg] at hG
  have hgi : (0 : Int) < (g : Int) := by omega
  have hgb : g ≤ 1000000000 := by rw [hg]; exact Nat.gcd_le_right _ (by omega)
  have hqi : (x : Int) / (g : Int) = (q : Int) := by rw [hq, Int.natCast_ediv]
  have hdi : (1000000000 : Int) / (g : Int) = (d : Int) := by rw [hd, Int.natCast_ediv]; rfl
  have hdb : d ≤ 1000000000 := by rw [hd]; exact Nat.div_le_self _ _
  clear hg hq hd
  go_enter Yba.func7, Yba.ntmps7
  go_wp2_with fail
  refine hG.mono ?_
  rintro e w1 ⟨rfl, m, rfl⟩
  go_wp2_with fail
  go_region
  all_goals (try go_wp2)
  refine bodyPost_ret (v := .tuple #[.agg #[.int .u32 (q : Int), .int .u32 (d : Int)], .bool true]) (by simp [results, Yba.results7, go_sem]) rfl ⟨rfl, ?_⟩
  exact ((below_drewN ((Below.refl _ _).alloc (Nat.le_refl _) _) _).setCell (Nat.le_refl _) _).setCell (Nat.le_refl _) _

set_option maxHeartbeats 3200000 in
theorem walk_exact (x : Nat) (hx : x ≤ 18446744073709551615) (w : World) :
    Calls Yba.prog 3 #[.int .u64 (x : Int)] w fun e w' => e = .returned (.bool true) ∧ Below w.heap.size w w' := by
  go_enter Yba.func3, Yba.ntmps3
  go_wp2
  go_loop [3, 4, 5] (fun s t i => ∃ n d k : Nat, k ≤ 9 ∧ n ≤ x ∧ d ≤ 1000000000 ∧ s = .int .u64 (n : Int) ∧ t = .int .u64 (d : Int) ∧ i = .int .i64 (k : Int) ∧ Hid (J x k n d)) (fun _ _ i => 9 - (intOf i).toNat)
  case atStart => exact ⟨x, 1000000000, 0, by omega, Nat.le_refl _, Nat.le_refl _, rfl, rfl, rfl, J.start x⟩
  case round =>
    obtain ⟨n, d, k, hk, hn, hd, rfl, rfl, rfl, hj⟩ := hrel
    by_cases hlt : k < 9
    · obtain ⟨n', d', hm, hcase⟩ : ∃ n' d', Hid (M x k n' d') ∧ ((n % 2 = 0 ∧ d % 2 = 0 ∧ n' = n / 2 ∧ d' = d / 2) ∨ (n % 2 ≠ 0 ∧ n' = n ∧ d' = d) ∨ (n % 2 = 0 ∧ d % 2 ≠ 0 ∧ n' = n ∧ d' = d)) := by
        by_cases h1 : n % 2 = 0
        · by_cases h2 : d % 2 = 0
          · exact ⟨_, _, hj.out.both hlt h1 h2, .inl ⟨h1, h2, rfl, rfl⟩⟩
          · exact ⟨_, _, hj.out.dodd hlt h2, .inr (.inr ⟨h1, h2, rfl, rfl⟩)⟩
        · exact ⟨_, _, hj.out.odd h1, .inr (.inl ⟨h1, rfl, rfl⟩)⟩
      obtain ⟨n2, d2, hj2, hcase2⟩ : ∃ n2 d2, Hid (J x (k + 1) n2 d2) ∧ ((n' % 5 = 0 ∧ d' % 5 = 0 ∧ n2 = n' / 5 ∧ d2 = d' / 5) ∨ (n' % 5 ≠ 0 ∧ n2 = n' ∧ d2 = d') ∨ (n' % 5 = 0 ∧ d' % 5 ≠ 0 ∧ n2 = n' ∧ d2 = d')) := by
        by_cases h1 : n' % 5 = 0
        · by_cases h2 : d' % 5 = 0
          · exact ⟨_, _, hm.out.both hlt h1 h2, .inl ⟨h1, h2, rfl, rfl⟩⟩
          · exact ⟨_, _, hm.out.dfive hlt h2, .inr (.inr ⟨h1, h2, rfl, rfl⟩)⟩
        · exact ⟨_, _, hm.out.nfive h1, .inr (.inl ⟨h1, rfl, rfl⟩)⟩
      clear hm hj
      have hb := hj2.out.bd
      rcases hcase with ⟨a1, a2, rfl, rfl⟩ | ⟨a1, rfl, rfl⟩ | ⟨a1, a2, rfl, rfl⟩
      all_goals
        rcases hcase2 with ⟨b1, b2, rfl, rfl⟩ | ⟨b1, rfl, rfl⟩ | ⟨b1, b2, rfl, rfl⟩
        all_goals
          go_wp2
          go_round
          case rel => exact ⟨_, _, k + 1, by omega, hb.1, hb.2, by go_num, by go_num, by go_num, hj2⟩
          case measure => simp [intOf]; omega
    · obtain rfl : k = 9 := by omega
      obtain ⟨g, hg⟩ : ∃ g, g = Nat.gcd x 1000000000 := ⟨_, rfl⟩
      have hdn := hj.out.done
      rw [← hg] at hdn
      obtain ⟨q1, q2, hg0⟩ := hdn
      by_cases hbig : 4294967295 < n
      · have hS := seconds_no x g n hx hg hg0 q1 hbig w
        clear hg q1 q2 hg0 hj
        go_wp2_with fail
        refine hS.mono ?_
        rintro e w1 ⟨rfl, hb⟩
        have HB : Hid (Below w.heap.size w w1) := hb
        clear hb hS
        go_wp2_with fail
        go_ret
        exact ⟨rfl, HB.out.alloc HB.out.size _⟩
      · have hS := seconds_yes x g n d hx hg hg0 q1 q2 (by omega) w
        clear hg q1 q2 hg0 hj
        go_wp2_with fail
        refine hS.mono ?_
        rintro e w1 ⟨rfl, hb⟩
        have HB : Hid (Below w.heap.size w w1) := hb
        clear hb hS
        go_wp2_with fail
        go_ret
        exact ⟨rfl, HB.out.alloc HB.out.size _⟩

end Go.Proofs.Ybulkwpk
