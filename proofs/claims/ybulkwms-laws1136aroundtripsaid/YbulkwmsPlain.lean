/- Plain facts on bytes and numbers: no Go in sight. -/
import Derived.Lib.EndianBits
import Derived.Lib.EndianMore
import Derived.Lib.VarintDec
namespace Go.Proofs.Ybulkwms

theorem beFrom_snoc (b : UInt8) : ∀ (l : List UInt8) (acc : Nat), Lib.beFrom acc (l ++ [b]) = Lib.beFrom acc l * 256 + b.toNat
  | [], _ => rfl
  | x :: r, acc => by simp only [List.cons_append, Lib.beFrom]; exact beFrom_snoc b r _
theorem beNat_snoc (l : List UInt8) (b : UInt8) : Lib.beNat (l ++ [b]) = Lib.beNat l * 256 + b.toNat := beFrom_snoc b l 0
theorem beFrom_lt : ∀ (l : List UInt8) (acc : Nat), Lib.beFrom acc l < (acc + 1) * 256 ^ l.length
  | [], acc => by simp [Lib.beFrom]
  | x :: r, acc => by
    simp only [Lib.beFrom, List.length_cons]
    have h := beFrom_lt r (acc * 256 + x.toNat)
    have hx : x.toNat < 256 := x.toNat_lt
    have h2 : (acc * 256 + x.toNat + 1) * 256 ^ r.length ≤ (acc + 1) * 256 * 256 ^ r.length := Nat.mul_le_mul_right _ (by omega)
    rw [Nat.pow_succ, Nat.mul_comm (256 ^ r.length) 256, ← Nat.mul_assoc]
    omega
theorem beNat_lt (l : List UInt8) : Lib.beNat l < 256 ^ l.length := by have := beFrom_lt l 0; rw [Nat.zero_add, Nat.one_mul] at this; exact this

theorem bits_or_comm (k : IntKind) (x y : Int) : bits .or k x y = bits .or k y x := by
  simp only [bits, BitVec.or_comm]

theorem shl8_or {x y : Nat} (hy : y < 72057594037927936) (hx : x < 256) :
    bits .or .u64 (IntKind.u64.wrap ((y : Int) * 256)) (IntKind.u64.wrap (x : Int)) = ((y * 256 + x : Nat) : Int) := by
  rw [u64_wrap_id ((y : Int) * 256) (by omega) (by omega), u64_wrap_id (x : Int) (by omega) (by omega), bits_or_comm, u64_or8 (x : Int) ((y : Int) * 256) (by omega) (by omega) (by omega) (by omega) (by omega)]
  omega

theorem uvarintFrom_le : ∀ (l : List UInt8) (i acc : Nat), (Lib.uvarintFrom i acc l).2 ≤ (i : Int) + l.length
  | [], i, acc => by simp [Lib.uvarintFrom]
  | b :: r, i, acc => by
    have h := uvarintFrom_le r (i + 1) (acc + b.toNat % 128 * 2 ^ (7 * i))
    simp only [Lib.uvarintFrom, List.length_cons]
    split
    · omega
    · split
      · split
        · omega
        · simp; omega
      · omega
theorem uvarintDec_le (l : List UInt8) : (Lib.uvarintDec l).2 ≤ l.length := by
  have := uvarintFrom_le l 0 0
  simpa [Lib.uvarintDec] using this
theorem varintDec_snd (l : List UInt8) : (Lib.varintDec l).2 = (Lib.uvarintDec l).2 := by
  simp [Lib.varintDec]

end Go.Proofs.Ybulkwms
