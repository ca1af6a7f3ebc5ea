/- 'zzs1136abe': the number that up to eight bytes spell. -/
import Derived.Test.YbulkwmsHold
import Derived.Test.YbulkwmsPlain
namespace Go.Proofs.Ybulkwms
open Go.RowKit
set_option linter.unusedVariables false

set_option maxHeartbeats 800000 in
theorem abe (p : Option Addr) (n c : Nat) (bs : List UInt8) (w : World) (h : Hs w p n c bs) (hn : n ≤ 8) :
    Calls Yba.prog 8 #[.slice p n c] w fun e w' => e = .returned (.int .u64 (Lib.beNat bs)) ∧ w' = w := by
  have HH : Hid (Hs w p n c bs) := h
  have hbl : bs.length = n := h.1
  clear h
  have HL : Hid (bs.length = n) := hbl
  clear hbl
  go_enter Yba.func8, Yba.ntmps8
  go_wp2
  go_loop [3, 4] (fun v i => ∃ k : Nat, k ≤ n ∧ i = .int .i64 k ∧ v = .int .u64 (Lib.beNat (bs.take k))) (fun _ i => n - (intOf i).toNat)
  case atStart => exact ⟨0, Nat.zero_le _, rfl, rfl⟩
  case round =>
    obtain ⟨k, hk, rfl, rfl⟩ := hrel
    by_cases hlt : k < n
    · obtain ⟨g, o, hp, hc⟩ : ∃ g o, p = some ⟨g, o, none⟩ ∧ ∀ j (hj : j < bs.length), w.cell? ⟨g, o + j, none⟩ = some (.int .u8 (bs[j].toNat : Int)) := by
        rcases HH.out.2.2 with h | h
        · omega
        · exact h
      have hck := hc k (by have := HL.out; omega)
      obtain ⟨x, hx⟩ : ∃ x : Nat, x = (bs[k]'(by have := HL.out; omega)).toNat := ⟨_, rfl⟩
      obtain ⟨y, hy⟩ : ∃ y : Nat, y = Lib.beNat (bs.take k) := ⟨_, rfl⟩
      rw [← hx] at hck
      rw [← hy]
      rw [hp]
      clear hc hp HH
      have HX := (show Hid _ from hx)
      have HY := (show Hid _ from hy)
      clear hx hy
      go_wp2
      go_round
      case rel =>
        refine ⟨k + 1, by omega, by go_num, ?_⟩
        have h1 : bs.take (k + 1) = bs.take k ++ [bs[k]'(by have := HL.out; omega)] := List.take_succ_eq_append_getElem (by have := HL.out; omega)
        rw [h1, beNat_snoc, ← HX.out, ← HY.out, shl8_or ?_ (by have := (bs[k]'(by have := HL.out; omega)).toNat_lt; rw [HX.out]; exact this)]
        have h2 := beNat_lt (bs.take k)
        rw [← HY.out] at h2
        have h3 : 256 ^ (bs.take k).length ≤ 256 ^ 7 := Nat.pow_le_pow_right (by omega) (by simp; omega)
        have h4 : (256 : Nat) ^ 7 = 72057594037927936 := by decide
        omega
      case measure => simp [intOf]; omega
    · go_wp2
      go_ret
      refine ⟨?_, rfl⟩
      rw [List.take_of_length_le (by have := HL.out; omega)]
      rfl

end Go.Proofs.Ybulkwms
