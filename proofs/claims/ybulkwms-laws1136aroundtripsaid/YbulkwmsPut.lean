/- The writers and appenders of encoding/binary, laid at this program, over rows that the call owns. -/
import Derived.Test.YbulkwmsModel
import Derived.Test.YbulkwmsPlain2
import Derived.Shelf.Bin.BEPutUint64
import Derived.Shelf.Bin.BEPutUint32
import Derived.Shelf.Bin.AppendUvarint
import Derived.Shelf.Bin.AppendVarint
namespace Go.Proofs.Ybulkwms
open Go.RowKit Go.Shelf
set_option linter.unusedVariables false

def Yba.lays43_ren : Go.Shelf.Ren := ⟨fun | 43 => 12 | n => n, fun | 37 => 39 | 22 => 22 | 33 => 25 | 0 => 0 | 5 => 5 | 45 => 56 | n => n, fun | n => n⟩
theorem Yba.lays43 : LaysBin.n43 Yba.prog Yba.lays43_ren := {
  mixed := by kernel_rfl,
  f43 := Yba.func12.trans (congrArg some (by kernel_rfl)),
  t0 := Yba.underlying0,
  a0 := Yba.isAgg0,
  z0 := Yba.sizeOf0,
  v0 := Yba.zeroValue0,
  i0 := by kernel_rfl,
  t5 := Yba.underlying5,
  a5 := Yba.isAgg5,
  z5 := Yba.sizeOf5,
  v5 := Yba.zeroValue5,
  i5 := by kernel_rfl,
  t22 := Yba.underlying22,
  a22 := Yba.isAgg22,
  z22 := Yba.sizeOf22,
  v22 := Yba.zeroValue22,
  i22 := by kernel_rfl,
  t33 := Yba.underlying25,
  a33 := Yba.isAgg25,
  z33 := Yba.sizeOf25,
  v33 := Yba.zeroValue25,
  i33 := by kernel_rfl,
  t37 := Yba.underlying39,
  a37 := Yba.isAgg39,
  z37 := Yba.sizeOf39,
  v37 := Yba.zeroValue39,
  i37 := by kernel_rfl,
  t45 := Yba.underlying56,
  a45 := Yba.isAgg56,
  z45 := Yba.sizeOf56,
  v45 := Yba.zeroValue56,
  i45 := by kernel_rfl }
def Yba.lays40_ren : Go.Shelf.Ren := ⟨fun | 40 => 13 | n => n, fun | 37 => 39 | 22 => 22 | 29 => 31 | 0 => 0 | 5 => 5 | 45 => 56 | n => n, fun | n => n⟩
theorem Yba.lays40 : LaysBin.n40 Yba.prog Yba.lays40_ren := {
  mixed := by kernel_rfl,
  f40 := Yba.func13.trans (congrArg some (by kernel_rfl)),
  t0 := Yba.underlying0,
  a0 := Yba.isAgg0,
  z0 := Yba.sizeOf0,
  v0 := Yba.zeroValue0,
  i0 := by kernel_rfl,
  t5 := Yba.underlying5,
  a5 := Yba.isAgg5,
  z5 := Yba.sizeOf5,
  v5 := Yba.zeroValue5,
  i5 := by kernel_rfl,
  t22 := Yba.underlying22,
  a22 := Yba.isAgg22,
  z22 := Yba.sizeOf22,
  v22 := Yba.zeroValue22,
  i22 := by kernel_rfl,
  t29 := Yba.underlying31,
  a29 := Yba.isAgg31,
  z29 := Yba.sizeOf31,
  v29 := Yba.zeroValue31,
  i29 := by kernel_rfl,
  t37 := Yba.underlying39,
  a37 := Yba.isAgg39,
  z37 := Yba.sizeOf39,
  v37 := Yba.zeroValue39,
  i37 := by kernel_rfl,
  t45 := Yba.underlying56,
  a45 := Yba.isAgg56,
  z45 := Yba.sizeOf56,
  v45 := Yba.zeroValue56,
  i45 := by kernel_rfl }
def Yba.lays47_ren : Go.Shelf.Ren := ⟨fun | 47 => 14 | n => n, fun | 22 => 22 | 33 => 25 | 4 => 4 | 5 => 5 | 45 => 56 | n => n, fun | n => n⟩
theorem Yba.lays47 : LaysBin.n47 Yba.prog Yba.lays47_ren := {
  mixed := by kernel_rfl,
  f47 := Yba.func14.trans (congrArg some (by kernel_rfl)),
  t4 := Yba.underlying4,
  a4 := Yba.isAgg4,
  z4 := Yba.sizeOf4,
  v4 := Yba.zeroValue4,
  i4 := by kernel_rfl,
  t5 := Yba.underlying5,
  a5 := Yba.isAgg5,
  z5 := Yba.sizeOf5,
  v5 := Yba.zeroValue5,
  i5 := by kernel_rfl,
  t22 := Yba.underlying22,
  a22 := Yba.isAgg22,
  z22 := Yba.sizeOf22,
  v22 := Yba.zeroValue22,
  i22 := by kernel_rfl,
  t33 := Yba.underlying25,
  a33 := Yba.isAgg25,
  z33 := Yba.sizeOf25,
  v33 := Yba.zeroValue25,
  i33 := by kernel_rfl,
  t45 := Yba.underlying56,
  a45 := Yba.isAgg56,
  z45 := Yba.sizeOf56,
  v45 := Yba.zeroValue56,
  i45 := by kernel_rfl }
def Yba.lays50_ren : Go.Shelf.Ren := ⟨fun | 50 => 15 | 47 => 14 | n => n, fun | 22 => 22 | 2 => 2 | 33 => 25 | 45 => 56 | 4 => 4 | 5 => 5 | n => n, fun | n => n⟩
theorem Yba.lays50 : LaysBin.n50 Yba.prog Yba.lays50_ren := {
  mixed := by kernel_rfl,
  f47 := Yba.func14.trans (congrArg some (by kernel_rfl)),
  f50 := Yba.func15.trans (congrArg some (by kernel_rfl)),
  t2 := Yba.underlying2,
  a2 := Yba.isAgg2,
  z2 := Yba.sizeOf2,
  v2 := Yba.zeroValue2,
  i2 := by kernel_rfl,
  t4 := Yba.underlying4,
  a4 := Yba.isAgg4,
  z4 := Yba.sizeOf4,
  v4 := Yba.zeroValue4,
  i4 := by kernel_rfl,
  t5 := Yba.underlying5,
  a5 := Yba.isAgg5,
  z5 := Yba.sizeOf5,
  v5 := Yba.zeroValue5,
  i5 := by kernel_rfl,
  t22 := Yba.underlying22,
  a22 := Yba.isAgg22,
  z22 := Yba.sizeOf22,
  v22 := Yba.zeroValue22,
  i22 := by kernel_rfl,
  t33 := Yba.underlying25,
  a33 := Yba.isAgg25,
  z33 := Yba.sizeOf25,
  v33 := Yba.zeroValue25,
  i33 := by kernel_rfl,
  t45 := Yba.underlying56,
  a45 := Yba.isAgg56,
  z45 := Yba.sizeOf56,
  v45 := Yba.zeroValue56,
  i45 := by kernel_rfl }

theorem heap_setCells (g : Nat) (t : TypeId) : ∀ (vs : List Value) (o : Nat) (w : World) (cur : List Value), w.heap[g]? = some (.cells cur.toArray t (0, 0)) → o + vs.length ≤ cur.length →
    (w.setCells g o vs).heap[g]? = some (.cells (splice cur o vs).toArray t (0, 0))
  | [], o, w, cur, h, _ => by simpa [World.setCells, splice] using h
  | v :: r, o, w, cur, h, hl => by
    have hl' : o + (r.length + 1) ≤ cur.length := by simpa using hl
    have h1 : (w.setCell ⟨g, o, none⟩ v).heap[g]? = some (.cells (cur.set o v).toArray t (0, 0)) := by
      simp [World.setCell, Array.getElem?_modify, h]
    have := heap_setCells g t r (o + 1) (w.setCell ⟨g, o, none⟩ v) (cur.set o v) h1 (by simp; omega)
    rw [World.setCells, this]
    have e : splice (cur.set o v) (o + 1) r = splice cur o (v :: r) := by
      unfold splice
      rw [List.take_succ_eq_append_getElem (by simp; omega), List.take_set_of_le (Nat.le_refl _), List.drop_set_of_lt (by omega)]
      simp [Nat.add_assoc, Nat.add_comm 1]
    rw [e]

theorem grown_setCells (g : Nat) : ∀ (vs : List Value) (o : Nat) (w : World), w.grownBy (w.setCells g o vs) (some g)
  | [], _, w => World.grownBy.refl w _
  | v :: r, o, w => grown_trans (grown_set w g o v) (grown_setCells g r (o + 1) _)

theorem put64 (g H : Nat) (hH : H < 18446744073709551616) (cur : List Value) (w : World) (hb : w.heap[g]? = some (.cells cur.toArray 5 (0, 0))) (hc : cur.length = 12) :
    Calls Yba.prog 12 #[.agg #[], .slice (some ⟨g, 0, none⟩) 8 12, .int .u64 (H : Int)] w fun e w' => e = .returned (.tuple #[]) ∧ w'.heap[g]? = some (.cells (splice cur 0 (Lib.byteCells (Lib.beBytes 8 H))).toArray 5 (0, 0)) ∧ w.grownBy w' (some g) := by
  have hlt := lt_of_block hb
  have hcell : ∀ j (hj : j < 12), w.cell? ⟨g, j, none⟩ = some (cur[j]'(by omega)) := fun j hj => by simp [World.cell?, hb, show j < cur.length by omega]
  have hfz : ∀ j, w.frozen? ⟨g, j, none⟩ = false := fun j => by simp [World.frozen?, hb]
  refine (Any.binary_BE_PutUint64 Yba.lays43 g 0 8 12 H hH _ _ _ _ _ _ _ _ w (Nat.le_refl _) (hcell 0 (by omega)) (hcell 1 (by omega)) (hcell 2 (by omega)) (hcell 3 (by omega)) (hcell 4 (by omega)) (hcell 5 (by omega)) (hcell 6 (by omega)) (hcell 7 (by omega)) (hfz _) (hfz _) (hfz _) (hfz _) (hfz _) (hfz _) (hfz _) (hfz _)).mono ?_
  rintro e w' ⟨rfl, rfl⟩
  refine ⟨rfl, heap_setCells g 5 _ 0 _ cur (by rw [Below.heap_alloc _ _ _ hlt]; exact hb) (by simp [Lib.byteCells_length, Lib.beBytes_length, hc]), ?_⟩
  exact grown_trans (World.grownBy_alloc w _ _) (grown_setCells g _ _ _)

theorem put32 (g C : Nat) (hC : C < 4294967296) (cur : List Value) (w : World) (hb : w.heap[g]? = some (.cells cur.toArray 5 (0, 0))) (hc : cur.length = 12) :
    Calls Yba.prog 13 #[.agg #[], .slice (some ⟨g, 8, none⟩) 4 4, .int .u32 (C : Int)] w fun e w' => e = .returned (.tuple #[]) ∧ w'.heap[g]? = some (.cells (splice cur 8 (Lib.byteCells (Lib.beBytes 4 C))).toArray 5 (0, 0)) ∧ w.grownBy w' (some g) := by
  have hlt := lt_of_block hb
  have hcell : ∀ j (hj : j < 12), w.cell? ⟨g, j, none⟩ = some (cur[j]'(by omega)) := fun j hj => by simp [World.cell?, hb, show j < cur.length by omega]
  have hfz : ∀ j, w.frozen? ⟨g, j, none⟩ = false := fun j => by simp [World.frozen?, hb]
  refine (Any.binary_BE_PutUint32 Yba.lays40 g 8 4 4 C hC _ _ _ _ w (Nat.le_refl _) (hcell 8 (by omega)) (hcell 9 (by omega)) (hcell 10 (by omega)) (hcell 11 (by omega)) (hfz _) (hfz _) (hfz _) (hfz _)).mono ?_
  rintro e w' ⟨rfl, rfl⟩
  refine ⟨rfl, heap_setCells g 5 _ 8 _ cur (by rw [Below.heap_alloc _ _ _ hlt]; exact hb) (by simp [Lib.byteCells_length, Lib.beBytes_length, hc]), ?_⟩
  exact grown_trans (World.grownBy_alloc w _ _) (grown_setCells g _ _ _)

theorem appU (B n x : Nat) (hx : x < 18446744073709551616) (sv : Value) (bs : List UInt8) (w : World) (hown : w.ownsRow B 5 1 sv n (Lib.byteCells bs)) (hBw : B ≤ w.heap.size) (hn : n ≤ 4096) :
    Calls Yba.prog 14 #[sv, .int .u64 (x : Int)] w fun e w' => ∃ v', e = .returned v' ∧ w'.ownsRow B 5 1 v' (n + (Lib.uvarint x).length) (Lib.byteCells (bs ++ Lib.uvarint x)) ∧ Below B w w' := by
  refine (Any.binary_AppendUvarint Yba.lays47 B n x hx sv _ w hown hBw (by omega)).mono ?_
  rintro e w' ⟨v', rfl, ho, hb⟩
  have ho' : w'.ownsRow B 5 1 v' (n + (Lib.uvarint x).length) (Lib.byteCells bs ++ Lib.byteCells (Lib.uvarint x)) := ho
  exact ⟨v', rfl, by simpa [Lib.byteCells] using ho', hb⟩

theorem appV (B n : Nat) (k : Int) (h0 : -9223372036854775808 ≤ k) (h1 : k ≤ 9223372036854775807) (sv : Value) (bs : List UInt8) (w : World) (hown : w.ownsRow B 5 1 sv n (Lib.byteCells bs)) (hBw : B ≤ w.heap.size) (hn : n ≤ 4096) :
    Calls Yba.prog 15 #[sv, .int .i64 k] w fun e w' => ∃ v', e = .returned v' ∧ w'.ownsRow B 5 1 v' (n + (Lib.uvarint (Lib.zigzag k)).length) (Lib.byteCells (bs ++ Lib.uvarint (Lib.zigzag k))) ∧ Below B w w' := by
  refine (Any.binary_AppendVarint Yba.lays50 B n k h0 h1 sv _ w hown hBw (by omega)).mono ?_
  rintro e w' ⟨v', rfl, ho, hb⟩
  have ho' : w'.ownsRow B 5 1 v' (n + (Lib.uvarint (Lib.zigzag k)).length) (Lib.byteCells bs ++ Lib.byteCells (Lib.uvarint (Lib.zigzag k))) := ho
  exact ⟨v', rfl, by simpa [Lib.byteCells] using ho', hb⟩

end Go.Proofs.Ybulkwms
