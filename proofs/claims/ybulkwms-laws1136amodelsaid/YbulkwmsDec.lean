/- The decoder: '(*decoder).bytes'. -/
import Derived.Test.YbulkwmsHold
import Derived.Shelf.Bin.Lays
import Derived.Shelf.Bin.BEUint64
import Derived.Shelf.Bin.BEUint32
import Derived.Shelf.Bin.Uvarint
import Derived.Shelf.Bin.UvarintEmpty
import Derived.Shelf.Bin.Varint
import Derived.Shelf.Bin.VarintEmpty
namespace Go.Proofs.Ybulkwms
open Go.RowKit Go.Shelf
set_option linter.unusedVariables false
open lawS1136BNext (two_cell0 two_cell1 two_free two_set0 two_set1 info5)

set_option maxHeartbeats 400000 in
theorem bytes_ok (d k n c c' : Nat) (p p' : Option Addr) (dm : Bool) (w : World) (hd : w.heap[d]? = some (.cells #[.slice p n c, .bool dm] 24 (0, 0))) (hn : n ≤ 2048) (hk : k ≤ n) 
    (h1 : ∀ w', (Instr.slice 22 (.slice p n c) none (some (.int .i64 (k : Int))) none).run Yba.prog w' = .ok (.slice p k c) w')
    (h2 : ∀ w', (Instr.slice 22 (.slice p n c) (some (.int .i64 (k : Int))) none none).run Yba.prog w' = .ok (.slice p' (n - k) c') w') :
    Calls Yba.prog 24 #[.pointer (some ⟨d, 0, none⟩), .int .i64 (k : Int)] w fun e w' => e = .returned (.slice p k c) ∧ w' = w.setCell ⟨d, 0, none⟩ (.slice p' (n - k) c') := by
  have c0 := two_cell0 hd
  have f0 := two_free (j := 0) hd
  clear hd
  have hnk : ¬ ((n : Int) < (k : Int)) := by omega
  go_enter Yba.func24, Yba.ntmps24
  go_wp2
  go_ret
  exact ⟨rfl, rfl⟩

theorem kept_ints {w w' : World} {d : Nat} {p : Option Addr} {n c : Nat} {dm : Bool} (hg : w.grownBy w' (some d)) (hd : w.heap[d]? = some (.cells #[.slice p n c, .bool dm] 24 (0, 0))) :
    ∀ g o v, w.cell? ⟨g, o, none⟩ = some (.int .u8 v) → w'.cell? ⟨g, o, none⟩ = some (.int .u8 v) := by
  intro g o v h
  refine hg.cell h ?_
  intro e
  simp at e
  subst e
  simp [World.cell?, hd] at h
  match o, h with
  | 0, h => simp at h
  | 1, h => simp at h
  | o + 2, h => simp at h

theorem grown_trans {a b c : World} {r : Option Nat} (h : a.grownBy b r) (k : b.grownBy c r) : a.grownBy c r :=
  ⟨k.os.trans h.os, k.tape.trans h.tape, k.output.trans h.output, Nat.le_trans h.size k.size, fun i hi hr => (k.block i (Nat.lt_of_lt_of_le hi h.size) hr).trans (h.block i hi hr)⟩
theorem grown_set (w : World) (d j : Nat) (v : Value) : w.grownBy (w.setCell ⟨d, j, none⟩ v) (some d) :=
  ⟨rfl, rfl, rfl, by simp [World.setCell], fun k _ hk => Below.heap_setCell _ _ _ _ (fun e => hk (by rw [e]))⟩
theorem grown_none {a b : World} {r : Option Nat} (h : a.grownBy b none) : a.grownBy b r := ⟨h.os, h.tape, h.output, h.size, fun k hk _ => h.block k hk (by simp)⟩
theorem grown_below {a b : World} (h : Below a.heap.size a b) (r : Option Nat) : a.grownBy b r := ⟨h.os, h.tape, h.output, h.size, fun k hk _ => h.block k hk⟩
theorem grown_drew (w : World) (r : Option Nat) : w.grownBy w.drew r := ⟨rfl, rfl, rfl, Nat.le_refl _, fun _ _ _ => rfl⟩

set_option maxHeartbeats 400000 in
theorem bytes_short (d k n c : Nat) (p : Option Addr) (dm : Bool) (w : World) (hd : w.heap[d]? = some (.cells #[.slice p n c, .bool dm] 24 (0, 0))) (hk8 : k ≤ 8) (hk : n < k) :
    Calls Yba.prog 24 #[.pointer (some ⟨d, 0, none⟩), .int .i64 (k : Int)] w fun e w' => e = .returned (.slice (some ⟨w.heap.size, 0, none⟩) k k) ∧
      w'.heap[d]? = some (.cells #[.slice none 0 0, .bool true] 24 (0, 0)) ∧ Hs w' (some ⟨w.heap.size, 0, none⟩) k k (List.replicate k 0) ∧ w.grownBy w' (some d) := by
  obtain ⟨i0, hi, hz0, hz1, hz2⟩ := info_parts info5
  have c0 := two_cell0 hd
  have c1 := two_cell1 hd
  have f0 := two_free (j := 0) hd
  have f1 := two_free (j := 1) hd
  have hlt := lt_of_block hd
  have hset := two_set0 (x := .slice none 0 0) (two_set1 (x := .bool true) hd)
  have HSET := (show Hid _ from hset)
  clear hset hd
  go_enter Yba.func24, Yba.ntmps24
  go_wp2_with (at_make; refine wpList_make_full _ rfl _ _ 22 rfl w.heap.size 5 i0 (.int .u8 0) 1 Yba.underlying22 hi hz0 hz1 _ _ _ _ k rfl rfl (by omega) (by omega) (by rw [hz2]; omega) (by unfold maxLen; omega) (by simp [World.setCell]) ?_)
  intro w1 hown hgrow
  have R : w1.heap[d]? = some (.cells #[.slice none 0 0, .bool true] 24 (0, 0)) ∧ Hs w1 (some ⟨w.heap.size, 0, none⟩) k k (List.replicate k 0) ∧ w.grownBy w1 (some d) := by
    refine ⟨?_, ⟨by simp, Nat.le_refl _, .inr ⟨_, _, rfl, fun j hj => ?_⟩⟩, grown_trans (grown_trans (grown_set w d 1 _) (grown_set _ d 0 _)) (grown_none hgrow)⟩
    · rw [hgrow.block d (by simp [World.setCell]; exact hlt) (by simp)]
      exact HSET.out
    · have hj' : j < k := by simpa using hj
      rw [Nat.zero_add, hown.cellAt j (by omega), toList_madeCells_one]
      simp [hj']
  have HR := (show Hid _ from R)
  clear R hown hgrow
  go_wp2
  go_ret
  exact ⟨rfl, HR.out⟩

/-! The library's contracts, laid at this program. -/
def Yba.lays42_ren : Go.Shelf.Ren := ⟨fun | 42 => 23 | n => n, fun | 37 => 39 | 22 => 22 | 33 => 25 | 0 => 0 | 5 => 5 | 45 => 56 | n => n, fun | n => n⟩
theorem Yba.lays42 : LaysBin.n42 Yba.prog Yba.lays42_ren := {
  mixed := by kernel_rfl,
  f42 := Yba.func23.trans (congrArg some (by kernel_rfl)),
  t0 := Yba.underlying0,
  a0 := Yba.isAgg0,
  z0 := Yba.sizeOf0,
  v0 := Yba.zeroValue0,
  i0 := by kernel_rfl,
  t5 := Yba.underlying5,
  a5 := Yba.isAgg5,
  z5 := Yba.sizeOf5,
  v5 := Yba.zeroValue5,
  i5 := by kernel_rfl,
  t22 := Yba.underlying22,
  a22 := Yba.isAgg22,
  z22 := Yba.sizeOf22,
  v22 := Yba.zeroValue22,
  i22 := by kernel_rfl,
  t33 := Yba.underlying25,
  a33 := Yba.isAgg25,
  z33 := Yba.sizeOf25,
  v33 := Yba.zeroValue25,
  i33 := by kernel_rfl,
  t37 := Yba.underlying39,
  a37 := Yba.isAgg39,
  z37 := Yba.sizeOf39,
  v37 := Yba.zeroValue39,
  i37 := by kernel_rfl,
  t45 := Yba.underlying56,
  a45 := Yba.isAgg56,
  z45 := Yba.sizeOf56,
  v45 := Yba.zeroValue56,
  i45 := by kernel_rfl }
def Yba.lays39_ren : Go.Shelf.Ren := ⟨fun | 39 => 25 | n => n, fun | 37 => 39 | 22 => 22 | 29 => 31 | 0 => 0 | 5 => 5 | 45 => 56 | n => n, fun | n => n⟩
theorem Yba.lays39 : LaysBin.n39 Yba.prog Yba.lays39_ren := {
  mixed := by kernel_rfl,
  f39 := Yba.func25.trans (congrArg some (by kernel_rfl)),
  t0 := Yba.underlying0,
  a0 := Yba.isAgg0,
  z0 := Yba.sizeOf0,
  v0 := Yba.zeroValue0,
  i0 := by kernel_rfl,
  t5 := Yba.underlying5,
  a5 := Yba.isAgg5,
  z5 := Yba.sizeOf5,
  v5 := Yba.zeroValue5,
  i5 := by kernel_rfl,
  t22 := Yba.underlying22,
  a22 := Yba.isAgg22,
  z22 := Yba.sizeOf22,
  v22 := Yba.zeroValue22,
  i22 := by kernel_rfl,
  t29 := Yba.underlying31,
  a29 := Yba.isAgg31,
  z29 := Yba.sizeOf31,
  v29 := Yba.zeroValue31,
  i29 := by kernel_rfl,
  t37 := Yba.underlying39,
  a37 := Yba.isAgg39,
  z37 := Yba.sizeOf39,
  v37 := Yba.zeroValue39,
  i37 := by kernel_rfl,
  t45 := Yba.underlying56,
  a45 := Yba.isAgg56,
  z45 := Yba.sizeOf56,
  v45 := Yba.zeroValue56,
  i45 := by kernel_rfl }
def Yba.lays45_ren : Go.Shelf.Ren := ⟨fun | 45 => 9 | n => n, fun | 22 => 22 | 33 => 25 | 3 => 3 | 45 => 56 | 0 => 0 | 5 => 5 | 4 => 4 | n => n, fun | n => n⟩
theorem Yba.lays45 : LaysBin.n45 Yba.prog Yba.lays45_ren := {
  mixed := by kernel_rfl,
  f45 := Yba.func9.trans (congrArg some (by kernel_rfl)),
  t0 := Yba.underlying0,
  a0 := Yba.isAgg0,
  z0 := Yba.sizeOf0,
  v0 := Yba.zeroValue0,
  i0 := by kernel_rfl,
  t3 := Yba.underlying3,
  a3 := Yba.isAgg3,
  z3 := Yba.sizeOf3,
  v3 := Yba.zeroValue3,
  i3 := by kernel_rfl,
  t4 := Yba.underlying4,
  a4 := Yba.isAgg4,
  z4 := Yba.sizeOf4,
  v4 := Yba.zeroValue4,
  i4 := by kernel_rfl,
  t5 := Yba.underlying5,
  a5 := Yba.isAgg5,
  z5 := Yba.sizeOf5,
  v5 := Yba.zeroValue5,
  i5 := by kernel_rfl,
  t22 := Yba.underlying22,
  a22 := Yba.isAgg22,
  z22 := Yba.sizeOf22,
  v22 := Yba.zeroValue22,
  i22 := by kernel_rfl,
  t33 := Yba.underlying25,
  a33 := Yba.isAgg25,
  z33 := Yba.sizeOf25,
  v33 := Yba.zeroValue25,
  i33 := by kernel_rfl,
  t45 := Yba.underlying56,
  a45 := Yba.isAgg56,
  z45 := Yba.sizeOf56,
  v45 := Yba.zeroValue56,
  i45 := by kernel_rfl }
def Yba.lays48_ren : Go.Shelf.Ren := ⟨fun | 48 => 10 | 45 => 9 | n => n, fun | 22 => 22 | 2 => 2 | 3 => 3 | 38 => 32 | 33 => 25 | 45 => 56 | 4 => 4 | 0 => 0 | 5 => 5 | n => n, fun | n => n⟩
theorem Yba.lays48 : LaysBin.n48 Yba.prog Yba.lays48_ren := {
  mixed := by kernel_rfl,
  f45 := Yba.func9.trans (congrArg some (by kernel_rfl)),
  f48 := Yba.func10.trans (congrArg some (by kernel_rfl)),
  t0 := Yba.underlying0,
  a0 := Yba.isAgg0,
  z0 := Yba.sizeOf0,
  v0 := Yba.zeroValue0,
  i0 := by kernel_rfl,
  t2 := Yba.underlying2,
  a2 := Yba.isAgg2,
  z2 := Yba.sizeOf2,
  v2 := Yba.zeroValue2,
  i2 := by kernel_rfl,
  t3 := Yba.underlying3,
  a3 := Yba.isAgg3,
  z3 := Yba.sizeOf3,
  v3 := Yba.zeroValue3,
  i3 := by kernel_rfl,
  t4 := Yba.underlying4,
  a4 := Yba.isAgg4,
  z4 := Yba.sizeOf4,
  v4 := Yba.zeroValue4,
  i4 := by kernel_rfl,
  t5 := Yba.underlying5,
  a5 := Yba.isAgg5,
  z5 := Yba.sizeOf5,
  v5 := Yba.zeroValue5,
  i5 := by kernel_rfl,
  t22 := Yba.underlying22,
  a22 := Yba.isAgg22,
  z22 := Yba.sizeOf22,
  v22 := Yba.zeroValue22,
  i22 := by kernel_rfl,
  t33 := Yba.underlying25,
  a33 := Yba.isAgg25,
  z33 := Yba.sizeOf25,
  v33 := Yba.zeroValue25,
  i33 := by kernel_rfl,
  t38 := Yba.underlying32,
  a38 := Yba.isAgg32,
  z38 := Yba.sizeOf32,
  v38 := Yba.zeroValue32,
  i38 := by kernel_rfl,
  t45 := Yba.underlying56,
  a45 := Yba.isAgg56,
  z45 := Yba.sizeOf56,
  v45 := Yba.zeroValue56,
  i45 := by kernel_rfl }

theorem get8 (bs : List UInt8) (h : bs.length = 8) : ∃ b0 b1 b2 b3 b4 b5 b6 b7, bs = [b0, b1, b2, b3, b4, b5, b6, b7] := by
  match bs, h with
  | [b0, b1, b2, b3, b4, b5, b6, b7], _ => exact ⟨_, _, _, _, _, _, _, _, rfl⟩
theorem get4 (bs : List UInt8) (h : bs.length = 4) : ∃ b0 b1 b2 b3, bs = [b0, b1, b2, b3] := by
  match bs, h with
  | [b0, b1, b2, b3], _ => exact ⟨_, _, _, _, rfl⟩

theorem be64 {p : Option Addr} {c : Nat} {bs : List UInt8} {w : World} (h : Hs w p 8 c bs) :
    Calls Yba.prog 23 #[.agg #[], .slice p 8 c] w fun e w' => e = .returned (.int .u64 (Lib.beNat bs)) ∧ Below w.heap.size w w' := by
  obtain ⟨hl, hc, h3 | ⟨g, o, rfl, h3⟩⟩ := h
  · omega
  obtain ⟨b0, b1, b2, b3, b4, b5, b6, b7, rfl⟩ := get8 bs hl
  exact Any.binary_BE_Uint64 Yba.lays42 g o 8 c b0 b1 b2 b3 b4 b5 b6 b7 w (Nat.le_refl _) (h3 0 (by simp)) (h3 1 (by simp)) (h3 2 (by simp)) (h3 3 (by simp)) (h3 4 (by simp)) (h3 5 (by simp)) (h3 6 (by simp)) (h3 7 (by simp))

theorem be32 {p : Option Addr} {c : Nat} {bs : List UInt8} {w : World} (h : Hs w p 4 c bs) :
    Calls Yba.prog 25 #[.agg #[], .slice p 4 c] w fun e w' => e = .returned (.int .u32 (Lib.beNat bs)) ∧ Below w.heap.size w w' := by
  obtain ⟨hl, hc, h3 | ⟨g, o, rfl, h3⟩⟩ := h
  · omega
  obtain ⟨b0, b1, b2, b3, rfl⟩ := get4 bs hl
  exact Any.binary_BE_Uint32 Yba.lays39 g o 4 c b0 b1 b2 b3 w (Nat.le_refl _) (h3 0 (by simp)) (h3 1 (by simp)) (h3 2 (by simp)) (h3 3 (by simp))

theorem uvar {p : Option Addr} {n c : Nat} {bs : List UInt8} {w : World} (h : Hs w p n c bs) :
    Calls Yba.prog 9 #[.slice p n c] w fun e w' => e = .returned (.tuple #[.int .u64 (Lib.uvarintDec bs).1, .int .i64 (Lib.uvarintDec bs).2]) ∧ w' = w := by
  obtain ⟨hl, hc, h3⟩ := h
  by_cases h0 : n = 0
  · subst h0
    obtain rfl := List.eq_nil_of_length_eq_zero hl
    exact Any.binary_Uvarint_empty Yba.lays45 p c w
  · rcases h3 with h3 | ⟨g, o, rfl, h3⟩
    · omega
    · exact Any.binary_Uvarint Yba.lays45 g o n c bs w hl h3

theorem svar {p : Option Addr} {n c : Nat} {bs : List UInt8} {w : World} (h : Hs w p n c bs) :
    Calls Yba.prog 10 #[.slice p n c] w fun e w' => e = .returned (.tuple #[.int .i64 (Lib.varintDec bs).1, .int .i64 (Lib.varintDec bs).2]) ∧ w' = w := by
  obtain ⟨hl, hc, h3⟩ := h
  by_cases h0 : n = 0
  · subst h0
    obtain rfl := List.eq_nil_of_length_eq_zero hl
    exact Any.binary_Varint_empty Yba.lays48 p c w
  · rcases h3 with h3 | ⟨g, o, rfl, h3⟩
    · omega
    · exact Any.binary_Varint Yba.lays48 g o n c bs w hl h3

end Go.Proofs.Ybulkwms
