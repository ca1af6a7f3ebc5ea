/- The arena in memory, and what a step may turn. -/
import Derived.Test.YbulkwowRows
import Derived.WalkKit
import Derived.WalkSpells
import Derived.WalkLawsBesides
import Derived.ProofKit
import Derived.OpenShut
import Derived.Below
import Derived.OneCell
import Derived.Deep.QuietTactic
import Derived.BigQuiet
import Derived.RegionTactic
import Derived.ChangeAlike
import Derived.BigRegion
import Derived.Outline
import Derived.Laws.CopyOwn
namespace Go.Proofs.Ybulkwow
open Go.RowKit
set_option linter.unusedVariables false

theorem info3 : (Yba.prog.info? 3).map (fun i => (i.zero, i.size, i.bytes)) = some (some (.int .i64 0), 1, 8) := by kernel_rfl
theorem info23 : (Yba.prog.info? 23).map (fun i => (i.zero, i.size, i.bytes)) = some (some (.slice none 0 0), 1, 24) := by kernel_rfl
theorem info5 : (Yba.prog.info? 5).map (fun i => (i.zero, i.size, i.bytes)) = some (some (.int .u8 0), 1, 1) := by kernel_rfl

/-- The arena at block b: its three slices and three numbers. -/
def Ar (w : World) (b : Nat) (v1 v2 v3 : Value) (t h hd : Int) : Prop :=
  w.heap[b]? = some (.cells #[v1, v2, v3, .int .i64 t, .int .i64 h, .int .i64 hd, .slice none 0 0, .slice none 0 0, .pointer none] 29 (0, 0))

section
variable {w : World} {b : Nat} {v1 v2 v3 : Value} {t h hd : Int}
theorem Ar.cells (a : Ar w b v1 v2 v3 t h hd) : w.cell? ⟨b, 0, none⟩ = some v1 ∧ w.cell? ⟨b, 1, none⟩ = some v2 ∧ w.cell? ⟨b, 2, none⟩ = some v3 ∧
    w.cell? ⟨b, 3, none⟩ = some (.int .i64 t) ∧ w.cell? ⟨b, 4, none⟩ = some (.int .i64 h) ∧ w.cell? ⟨b, 5, none⟩ = some (.int .i64 hd) := by
  unfold Ar at a; simp [World.cell?, a]
theorem Ar.free (a : Ar w b v1 v2 v3 t h hd) (j : Nat) : w.frozen? ⟨b, j, none⟩ = false := by
  unfold Ar at a; simp [World.frozen?, a]
theorem Ar.lt (a : Ar w b v1 v2 v3 t h hd) : b < w.heap.size := lt_of_block a
theorem Ar.set0 (a : Ar w b v1 v2 v3 t h hd) (x : Value) : Ar (w.setCell ⟨b, 0, none⟩ x) b x v2 v3 t h hd := by
  unfold Ar at a ⊢; simp [World.setCell, Array.getElem?_modify, a]
theorem Ar.set1 (a : Ar w b v1 v2 v3 t h hd) (x : Value) : Ar (w.setCell ⟨b, 1, none⟩ x) b v1 x v3 t h hd := by
  unfold Ar at a ⊢; simp [World.setCell, Array.getElem?_modify, a]
theorem Ar.set2 (a : Ar w b v1 v2 v3 t h hd) (x : Value) : Ar (w.setCell ⟨b, 2, none⟩ x) b v1 v2 x t h hd := by
  unfold Ar at a ⊢; simp [World.setCell, Array.getElem?_modify, a]
theorem Ar.kept {w' : World} (a : Ar w b v1 v2 v3 t h hd) (e : w'.heap[b]? = w.heap[b]?) : Ar w' b v1 v2 v3 t h hd := by
  unfold Ar at a ⊢; rw [e]; exact a
theorem Ar.other {B e n : Nat} {v : Value} {xs : List Value} (a : Ar w b v1 v2 v3 t h hd) (ho : w.ownsRow B e 1 v n xs) (he : e ≠ 29) : v.ownBlock ≠ some b := by
  rcases ho.2 with ⟨rfl, _⟩ | ⟨g, cap, cur, rfl, _, hg, _⟩
  · simp [Value.ownBlock]
  · intro q
    simp [Value.ownBlock] at q
    subst q
    unfold Ar at a
    rw [hg] at a
    simp at a
    exact he a.2
end

/-- From w to w' at most the blocks of S have turned, and new ones have come. -/
def Kp (S : Nat → Prop) (w w' : World) : Prop := Below 0 w w' ∧ ∀ k, k < w.heap.size → ¬ S k → w'.heap[k]? = w.heap[k]?
theorem Kp.refl (S : Nat → Prop) (w : World) : Kp S w w := ⟨Below.refl _ _, fun _ _ _ => rfl⟩
theorem Kp.trans {S : Nat → Prop} {a b c : World} (h : Kp S a b) (k : Kp S b c) : Kp S a c :=
  ⟨h.1.trans k.1, fun i hi hs => (k.2 i (Nat.lt_of_lt_of_le hi h.1.size) hs).trans (h.2 i hi hs)⟩
theorem Kp.mono {S T : Nat → Prop} {a b : World} (h : Kp S a b) (hs : ∀ k, k < a.heap.size → S k → T k) : Kp T a b :=
  ⟨h.1, fun i hi ht => h.2 i hi fun q => ht (hs i hi q)⟩
theorem Kp.alloc {S : Nat → Prop} {a b : World} (h : Kp S a b) (o : Obj) : Kp S a (b.alloc o) :=
  ⟨h.1.alloc (Nat.zero_le _) o, fun i hi hs => (Below.heap_alloc _ _ _ (Nat.lt_of_lt_of_le hi h.1.size)).trans (h.2 i hi hs)⟩
theorem Kp.drew {S : Nat → Prop} {a b : World} (h : Kp S a b) : Kp S a b.drew := ⟨h.1.drew, h.2⟩
theorem Kp.drewN {S : Nat → Prop} {a b : World} (h : Kp S a b) (n : Nat) : Kp S a (b.drewN n) := ⟨below_drewN h.1 n, h.2⟩
theorem Kp.set {S : Nat → Prop} {a b : World} (h : Kp S a b) {g j : Nat} (hg : S g) (v : Value) : Kp S a (b.setCell ⟨g, j, none⟩ v) :=
  ⟨h.1.setCell (Nat.zero_le _) v, fun i hi hs => (Below.heap_setCell _ _ _ _ (fun e => hs (by simp at e; rw [e]; exact hg))).trans (h.2 i hi hs)⟩
theorem Kp.grown {S : Nat → Prop} {a b c : World} {row : Option Nat} (h : Kp S a b) (hg : b.grownBy c row) (hr : ∀ k, row = some k → k < a.heap.size → S k) : Kp S a c :=
  ⟨h.1.grown hg (Nat.zero_le _) (fun _ _ => Nat.zero_le _), fun i hi hs => (hg.block i (Nat.lt_of_lt_of_le hi h.1.size) (fun e => hs (hr i e.symm hi))).trans (h.2 i hi hs)⟩
theorem Kp.below {S : Nat → Prop} {a b : World} {B : Nat} (h : Kp S a b) (hB : B ≤ a.heap.size) (hs : ∀ k, k < B → ¬ S k) : Below B a b :=
  ⟨h.1.os, h.1.tape, h.1.output, h.1.size, fun k hk => h.2 k (by omega) (hs k hk)⟩
theorem Kp.own {S : Nat → Prop} {w w' : World} {B e n : Nat} {v : Value} {xs : List Value} (h : Kp S w w') (ho : w.ownsRow B e 1 v n xs) (hs : ∀ k, v.ownBlock = some k → ¬ S k) : w'.ownsRow B e 1 v n xs := by
  obtain ⟨h1, h2⟩ := ho
  refine ⟨h1, ?_⟩
  rcases h2 with h2 | ⟨g, cap, cur, rfl, hg, hh, r⟩
  · exact .inl h2
  · exact .inr ⟨g, cap, cur, rfl, hg, by rw [h.2 g (lt_of_block hh) (hs g rfl)]; exact hh, r⟩
theorem Kp.row {S : Nat → Prop} {w w' : World} {k : Nat} {o : Obj} (h : Kp S w w') (hk : w.heap[k]? = some o) (hs : ¬ S k) : w'.heap[k]? = some o :=
  (h.2 k (lt_of_block hk) hs).trans hk

/-- What may turn in 'newChunk'. -/
def Tn (b : Nat) (v1 v2 : Value) : Nat → Prop := fun k => k = b ∨ v1.ownBlock = some k ∨ v2.ownBlock = some k

end Go.Proofs.Ybulkwow
