/- Plain facts on varints: what is encoded is what is decoded. -/
import Derived.Test.YbulkwmsPlain
import Derived.Lib.Varint
namespace Go.Proofs.Ybulkwms

theorem u8_small {x : Nat} (h : x < 256) : (x.toUInt8).toNat = x := by simp [Nat.toUInt8, UInt8.toNat_ofNat']; omega

theorem dec_enc : ∀ (r i acc x : Nat) (rest : List UInt8), i + r = 9 → x < 2 ^ (64 - 7 * i) →
    Lib.uvarintFrom i acc (Lib.uvarint x ++ rest) = (acc + x * 2 ^ (7 * i), ((i + (Lib.uvarint x).length : Nat) : Int))
  | 0, i, acc, x, rest, hi, hx => by
    obtain rfl : i = 9 := by omega
    have hx2 : x < 2 := hx
    rw [Lib.uvarint_small (by omega)]
    simp only [List.cons_append, List.nil_append, Lib.uvarintFrom]
    rw [u8_small (by omega), if_neg (by omega), if_pos (by omega), if_neg (by omega)]
    rfl
  | r + 1, i, acc, x, rest, hi, hx => by
    by_cases h : x < 128
    · rw [Lib.uvarint_small h]
      simp only [List.cons_append, List.nil_append, Lib.uvarintFrom]
      rw [u8_small (by omega), if_neg (by omega), if_pos h, if_neg (by omega)]
      rfl
    · rw [Lib.uvarint_big (by omega)]
      simp only [List.cons_append, Lib.uvarintFrom]
      rw [u8_small (by omega), if_neg (by omega), if_neg (by omega)]
      have hx' : x / 128 < 2 ^ (64 - 7 * (i + 1)) := by
        apply Nat.div_lt_of_lt_mul
        have e : 2 ^ (64 - 7 * i) = 128 * 2 ^ (64 - 7 * (i + 1)) := by
          rw [show 64 - 7 * i = (64 - 7 * (i + 1)) + 7 by omega, Nat.pow_add, Nat.mul_comm]
        omega
      rw [dec_enc r (i + 1) _ (x / 128) rest (by omega) hx']
      have e : 2 ^ (7 * (i + 1)) = 128 * 2 ^ (7 * i) := by
        rw [show 7 * (i + 1) = 7 * i + 7 by omega, Nat.pow_add, Nat.mul_comm]
      have hmod : (x % 128 + 128) % 128 = x % 128 := by omega
      congr 1
      · rw [hmod, e, Nat.add_assoc, ← Nat.mul_assoc, ← Nat.add_mul]
        congr 2
        omega
      · simp only [List.length_cons]
        omega

theorem uvarint_round (x : Nat) (rest : List UInt8) (h : x < 18446744073709551616) : Lib.uvarintDec (Lib.uvarint x ++ rest) = (x, ((Lib.uvarint x).length : Int)) := by
  have := dec_enc 9 0 0 x rest rfl (by simpa using h)
  simpa [Lib.uvarintDec] using this

theorem zigzag_lt {k : Int} (h0 : -9223372036854775808 ≤ k) (h1 : k ≤ 9223372036854775807) : Lib.zigzag k < 18446744073709551616 := by
  unfold Lib.zigzag
  split <;> omega
theorem zigzag_round (k : Int) : Lib.unzigzag (Lib.zigzag k) = k := by
  unfold Lib.zigzag Lib.unzigzag
  split <;> split <;> omega
theorem varint_round (k : Int) (rest : List UInt8) (h0 : -9223372036854775808 ≤ k) (h1 : k ≤ 9223372036854775807) : Lib.varintDec (Lib.uvarint (Lib.zigzag k) ++ rest) = (k, ((Lib.uvarint (Lib.zigzag k)).length : Int)) := by
  simp only [Lib.varintDec, uvarint_round _ rest (zigzag_lt h0 h1), zigzag_round]

end Go.Proofs.Ybulkwms
