/- Slices of bytes as values: what they hold, and how they are cut. -/
import Derived.Test.YbulkwmsNext
import Derived.Laws.BytesArg
namespace Go.Proofs.Ybulkwms
open Go.RowKit
open lawS1136BNext (two_cell0 two_cell1 two_free two_set0 two_set1 info5)

/-- The slice (p, n, c) holds the bytes bs. -/
def Hs (w : World) (p : Option Addr) (n c : Nat) (bs : List UInt8) : Prop :=
  bs.length = n ∧ n ≤ c ∧ (n = 0 ∨ ∃ g o, p = some ⟨g, o, none⟩ ∧ ∀ j (hj : j < bs.length), w.cell? ⟨g, o + j, none⟩ = some (.int .u8 (bs[j].toNat : Int)))

theorem addr_add (g o k : Nat) : (⟨g, o, none⟩ : Addr).add k = ⟨g, o + k, none⟩ := by
  unfold Addr.add
  split <;> simp_all

theorem elem22 : Yba.prog.elem 22 = 5 := by kernel_rfl
theorem und22 : Yba.prog.underlying 22 = some (.slice (Yba.prog.elem 22)) := by rw [elem22]; exact Yba.underlying22

/-- 'x[k:]' -/
theorem cut_from {w : World} {p : Option Addr} {n c : Nat} {bs : List UInt8} (h : Hs w p n c bs) (k : Nat) (hk : k ≤ n) :
    ∃ p', (∀ w', (Instr.slice 22 (.slice p n c) (some (.int .i64 (k : Int))) none none).run Yba.prog w' = .ok (.slice p' (n - k) (c - k)) w') ∧ Hs w p' (n - k) (c - k) (bs.drop k) := by
  obtain ⟨hl, hc, h3⟩ := h
  refine ⟨if c = k then p else p.map (·.add k), fun w' => ?_, by simp [hl], by omega, ?_⟩
  · rw [run_slice_l w' 22 p n c und22 .i64 (k : Int) (by omega) (by omega), elem22]
    simp [Yba.sizeOf5, sliced]
  · by_cases h0 : n - k = 0
    · exact .inl h0
    · rcases h3 with h3 | ⟨g, o, rfl, h3⟩
      · omega
      · refine .inr ⟨g, o + k, by rw [if_neg (by omega)]; simp [addr_add], fun j hj => ?_⟩
        have hj' : j < bs.length - k := by simpa using hj
        have := h3 (k + j) (by omega)
        rw [Nat.add_assoc, this]
        simp

/-- 'x[:k]' -/
theorem cut_to {w : World} {p : Option Addr} {n c : Nat} {bs : List UInt8} (h : Hs w p n c bs) (k : Nat) (hk : k ≤ n) :
    (∀ w', (Instr.slice 22 (.slice p n c) none (some (.int .i64 (k : Int))) none).run Yba.prog w' = .ok (.slice p k c) w') ∧ Hs w p k c (bs.take k) := by
  obtain ⟨hl, hc, h3⟩ := h
  refine ⟨fun w' => ?_, by simp; omega, by omega, ?_⟩
  · rw [run_slice_h w' 22 p n c und22 .i64 (k : Int) (by omega) (by omega), elem22]
    simp [Yba.sizeOf5, sliced]
    cases p <;> simp [Addr.add]
  · rcases h3 with h3 | ⟨g, o, rfl, h3⟩
    · exact .inl (by omega)
    · refine .inr ⟨g, o, rfl, fun j hj => ?_⟩
      have hj' : j < min k bs.length := by simpa using hj
      rw [h3 j (by omega)]
      simp

theorem Hs.kept {w w' : World} {p : Option Addr} {n c : Nat} {bs : List UInt8} (h : Hs w p n c bs) (hk : ∀ g o v, w.cell? ⟨g, o, none⟩ = some (.int .u8 v) → w'.cell? ⟨g, o, none⟩ = some (.int .u8 v)) : Hs w' p n c bs := by
  obtain ⟨hl, hc, h3⟩ := h
  refine ⟨hl, hc, ?_⟩
  rcases h3 with h3 | ⟨g, o, rfl, h3⟩
  · exact .inl h3
  · exact .inr ⟨g, o, rfl, fun j hj => hk _ _ _ (h3 j hj)⟩

theorem Hs.nil (w : World) : Hs w none 0 0 [] := ⟨rfl, Nat.le_refl _, .inl rfl⟩

/-- 'string(x)' -/
theorem conv_str {w : World} {p : Option Addr} {n c : Nat} {bs : List UInt8} (h : Hs w p n c bs) :
    (convert 22 9 (.slice p n c)).run Yba.prog w = .ok (.string ⟨bs.toArray⟩) w := by
  obtain ⟨hl, hc, h3⟩ := h
  by_cases h0 : n = 0
  · subst h0
    obtain rfl := List.eq_nil_of_length_eq_zero hl
    cases p with
    | none => exact run_convert_bytes_nil (P := Yba.prog) w 22 5 Yba.underlying22 Yba.underlying5 0 c 9 Yba.underlying9
    | some a =>
      have hl : (loadCells a 0).run Yba.prog w = .ok #[] w := by simpa using run_loadCells_list (P := Yba.prog) w a [] (by simp)
      rw [run_convert_bytes_string w 22 9 5 _ 0 c Yba.underlying22 Yba.underlying5 Yba.underlying9]
      simp [Conv.bytesToString, hl]
      rfl
  · rcases h3 with h3 | ⟨g, o, rfl, h3⟩
    · omega
    · have := run_convert_bytes_arg (P := Yba.prog) w 22 5 Yba.underlying22 Yba.underlying5 g o n c (bs.map fun b => (b.toNat : Int)) (by simpa using hl) (fun i hi => by
        rw [h3 i (by omega)]
        simp [show i < bs.length by omega]) 9 Yba.underlying9
      rw [this]
      simp [strOfNums, Function.comp_def]

end Go.Proofs.Ybulkwms
