/- Plain facts on stripping the factors 2 and 5: no Go in sight. -/
import Derived.Test.YbulkwpkRows
namespace Go.Proofs.Ybulkwpk
set_option linter.unusedVariables false

/-- Behind k rounds of stripping: n over d is ns over 10^9; of the common 2s and 5s at least k are gone, or none is left. -/
def J (ns k n d : Nat) : Prop :=
  ∃ a b e, d = 2 ^ a * 5 ^ b ∧ ns = n * e ∧ 1000000000 = d * e ∧ (a + k ≤ 9 ∨ n % 2 ≠ 0) ∧ (b + k ≤ 9 ∨ n % 5 ≠ 0)
/-- The same behind the round's first half. -/
def M (ns k n d : Nat) : Prop :=
  ∃ a b e, d = 2 ^ a * 5 ^ b ∧ ns = n * e ∧ 1000000000 = d * e ∧ (a + (k + 1) ≤ 9 ∨ n % 2 ≠ 0) ∧ (b + k ≤ 9 ∨ n % 5 ≠ 0)

theorem J.start (ns : Nat) : J ns 0 ns 1000000000 := ⟨9, 9, 1, by decide, by omega, by omega, .inl (by omega), .inl (by omega)⟩

theorem pow5_odd : ∀ b : Nat, 5 ^ b % 2 = 1
  | 0 => rfl
  | b + 1 => by have := pow5_odd b; rw [Nat.pow_succ]; omega
theorem pow2_not5 : ∀ a : Nat, 2 ^ a % 5 ≠ 0
  | 0 => by decide
  | a + 1 => by have := pow2_not5 a; rw [Nat.pow_succ]; omega

theorem even_split {a b : Nat} (h : (2 ^ a * 5 ^ b) % 2 = 0) : ∃ a', a = a' + 1 ∧ 2 ^ a * 5 ^ b / 2 = 2 ^ a' * 5 ^ b := by
  cases a with
  | zero => have := pow5_odd b; simp at h; omega
  | succ a =>
    refine ⟨a, rfl, ?_⟩
    rw [Nat.pow_succ, Nat.mul_right_comm]
    exact Nat.mul_div_cancel _ (by decide)
theorem five_split {a b : Nat} (h : (2 ^ a * 5 ^ b) % 5 = 0) : ∃ b', b = b' + 1 ∧ 2 ^ a * 5 ^ b / 5 = 2 ^ a * 5 ^ b' := by
  cases b with
  | zero => have := pow2_not5 a; simp at h; omega
  | succ b =>
    refine ⟨b, rfl, ?_⟩
    rw [Nat.pow_succ, ← Nat.mul_assoc]
    exact Nat.mul_div_cancel _ (by decide)
theorem odd_zero {a b : Nat} (h : (2 ^ a * 5 ^ b) % 2 ≠ 0) : a = 0 := by
  cases a with
  | zero => rfl
  | succ a => rw [Nat.pow_succ, Nat.mul_right_comm] at h; omega
theorem notfive_zero {a b : Nat} (h : (2 ^ a * 5 ^ b) % 5 ≠ 0) : b = 0 := by
  cases b with
  | zero => rfl
  | succ b => rw [Nat.pow_succ, ← Nat.mul_assoc] at h; omega

theorem half_mul {n e : Nat} (h : n % 2 = 0) : n * e = n / 2 * (2 * e) := by
  rw [← Nat.mul_assoc, Nat.div_mul_cancel (Nat.dvd_of_mod_eq_zero h)]
theorem fifth_mul {n e : Nat} (h : n % 5 = 0) : n * e = n / 5 * (5 * e) := by
  rw [← Nat.mul_assoc, Nat.div_mul_cancel (Nat.dvd_of_mod_eq_zero h)]

theorem J.both {ns k n d : Nat} (h : J ns k n d) (hk : k < 9) (h1 : n % 2 = 0) (h2 : d % 2 = 0) : M ns k (n / 2) (d / 2) := by
  obtain ⟨a, b, e, hd, hn, ht, ha, hb⟩ := h
  rw [hd] at h2
  obtain ⟨a', rfl, hq⟩ := even_split h2
  refine ⟨a', b, 2 * e, by rw [hd, hq], by rw [hn, half_mul h1], by rw [ht, half_mul (by rw [hd]; exact h2)], .inl (by omega), ?_⟩
  rcases hb with hb | hb
  · exact .inl hb
  · right; omega
theorem J.odd {ns k n d : Nat} (h : J ns k n d) (h1 : n % 2 ≠ 0) : M ns k n d := by
  obtain ⟨a, b, e, hd, hn, ht, ha, hb⟩ := h
  exact ⟨a, b, e, hd, hn, ht, .inr h1, hb⟩
theorem J.dodd {ns k n d : Nat} (h : J ns k n d) (hk : k < 9) (h2 : d % 2 ≠ 0) : M ns k n d := by
  obtain ⟨a, b, e, hd, hn, ht, ha, hb⟩ := h
  have h0 := odd_zero (by rw [← hd]; exact h2)
  exact ⟨a, b, e, hd, hn, ht, .inl (by omega), hb⟩
theorem M.both {ns k n d : Nat} (h : M ns k n d) (hk : k < 9) (h1 : n % 5 = 0) (h2 : d % 5 = 0) : J ns (k + 1) (n / 5) (d / 5) := by
  obtain ⟨a, b, e, hd, hn, ht, ha, hb⟩ := h
  rw [hd] at h2
  obtain ⟨b', rfl, hq⟩ := five_split h2
  refine ⟨a, b', 5 * e, by rw [hd, hq], by rw [hn, fifth_mul h1], by rw [ht, fifth_mul (by rw [hd]; exact h2)], ?_, .inl (by omega)⟩
  rcases ha with ha | ha
  · exact .inl ha
  · right; omega
theorem M.nfive {ns k n d : Nat} (h : M ns k n d) (h1 : n % 5 ≠ 0) : J ns (k + 1) n d := by
  obtain ⟨a, b, e, hd, hn, ht, ha, hb⟩ := h
  exact ⟨a, b, e, hd, hn, ht, ha, .inr h1⟩
theorem M.dfive {ns k n d : Nat} (h : M ns k n d) (hk : k < 9) (h2 : d % 5 ≠ 0) : J ns (k + 1) n d := by
  obtain ⟨a, b, e, hd, hn, ht, ha, hb⟩ := h
  have h0 := notfive_zero (by rw [← hd]; exact h2)
  exact ⟨a, b, e, hd, hn, ht, ha, .inl (by omega)⟩

theorem J.bd {ns k n d : Nat} (h : J ns k n d) : n ≤ ns ∧ d ≤ 1000000000 := by
  obtain ⟨a, b, e, hd, hn, ht, ha, hb⟩ := h
  have he : 0 < e := by
    rcases Nat.eq_zero_or_pos e with h0 | h0
    · subst h0; omega
    · exact h0
  exact ⟨by rw [hn]; exact Nat.le_mul_of_pos_right n he, by rw [ht]; exact Nat.le_mul_of_pos_right d he⟩

theorem cop2 {n : Nat} (h : n % 2 ≠ 0) : Nat.Coprime n 2 := by
  unfold Nat.Coprime
  rw [Nat.gcd_comm, Nat.gcd_rec, show n % 2 = 1 by omega]
  decide
theorem cop5 {n : Nat} (h : n % 5 ≠ 0) : Nat.Coprime n 5 := by
  unfold Nat.Coprime
  rw [Nat.gcd_comm, Nat.gcd_rec]
  have : n % 5 = 1 ∨ n % 5 = 2 ∨ n % 5 = 3 ∨ n % 5 = 4 := by omega
  rcases this with h | h | h | h <;> rw [h] <;> decide

theorem J.done {ns n d : Nat} (h : J ns 9 n d) : n = ns / Nat.gcd ns 1000000000 ∧ d = 1000000000 / Nat.gcd ns 1000000000 ∧ 0 < Nat.gcd ns 1000000000 := by
  obtain ⟨a, b, e, hd, hn, ht, ha, hb⟩ := h
  have hc : Nat.Coprime n d := by
    rw [hd]
    apply Nat.Coprime.mul_right
    · rcases ha with ha | ha
      · rw [show a = 0 by omega]; exact Nat.coprime_one_right n
      · exact Nat.Coprime.pow_right a (cop2 ha)
    · rcases hb with hb | hb
      · rw [show b = 0 by omega]; exact Nat.coprime_one_right n
      · exact Nat.Coprime.pow_right b (cop5 hb)
  have he : 0 < e := by
    rcases Nat.eq_zero_or_pos e with h0 | h0
    · subst h0; omega
    · exact h0
  have hg : Nat.gcd ns 1000000000 = e := by
    rw [hn, ht, Nat.gcd_mul_right, hc, Nat.one_mul]
  rw [hg]
  refine ⟨?_, ?_, he⟩
  · rw [hn, Nat.mul_div_cancel _ he]
  · rw [ht, Nat.mul_div_cancel _ he]

end Go.Proofs.Ybulkwpk
