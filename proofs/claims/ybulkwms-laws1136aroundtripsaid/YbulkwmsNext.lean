/- The contract of '(*tabs).next'. -/
import Derived.Test.YbulkwmsRows
import Derived.WalkKit
import Derived.WalkSpells
import Derived.WalkLawsBesides
import Derived.ProofKit
import Derived.OpenShut
import Derived.Below
import Derived.OneCell
import Derived.Deep.QuietTactic
import Derived.BigQuiet
import Derived.Laws.CopyOwn
import Derived.Outline
namespace Go.Proofs.Ybulkwms.lawS1136BNext
open Go.RowKit

theorem info5 : (Yba.prog.info? 5).map (fun i => (i.zero, i.size, i.bytes)) = some (some (.int .u8 0), 1, 1) := by kernel_rfl

theorem two_cell0 {w : World} {b : Nat} {u v : Value} {t : TypeId} (h : w.heap[b]? = some (.cells #[u, v] t (0, 0))) : w.cell? ⟨b, 0, none⟩ = some u := by simp [World.cell?, h]
theorem two_cell1 {w : World} {b : Nat} {u v : Value} {t : TypeId} (h : w.heap[b]? = some (.cells #[u, v] t (0, 0))) : w.cell? ⟨b, 1, none⟩ = some v := by simp [World.cell?, h]
theorem two_free {w : World} {b j : Nat} {u v : Value} {t : TypeId} (h : w.heap[b]? = some (.cells #[u, v] t (0, 0))) : w.frozen? ⟨b, j, none⟩ = false := by simp [World.frozen?, h]
theorem two_set0 {w : World} {b : Nat} {u v x : Value} {t : TypeId} (h : w.heap[b]? = some (.cells #[u, v] t (0, 0))) : (w.setCell ⟨b, 0, none⟩ x).heap[b]? = some (.cells #[x, v] t (0, 0)) := by
  simp [World.setCell, Array.getElem?_modify, h]
theorem two_set1 {w : World} {b : Nat} {u v x : Value} {t : TypeId} (h : w.heap[b]? = some (.cells #[u, v] t (0, 0))) : (w.setCell ⟨b, 1, none⟩ x).heap[b]? = some (.cells #[u, x] t (0, 0)) := by
  simp [World.setCell, Array.getElem?_modify, h]
theorem own_other {w : World} {B b n : Nat} {v : Value} {xs : List Value} {cs : Array Value} (ho : w.ownsRow B 5 1 v n xs) (h : w.heap[b]? = some (.cells cs 47 (0, 0))) : v.ownBlock ≠ some b := by
  rcases ho.2 with ⟨rfl, _⟩ | ⟨g, cap, cur, rfl, _, hg, _⟩
  · simp [Value.ownBlock]
  · intro e
    simp [Value.ownBlock] at e
    subst e
    rw [hg] at h
    simp at h

set_option maxHeartbeats 400000 in
theorem next_no (b : Nat) (v : Value) (w : World) (hb : w.heap[b]? = some (.cells #[v, .bool false] 47 (0, 0))) :
    Calls Yba.prog 16 #[.pointer (some ⟨b, 0, none⟩)] w fun e w' => e = .returned (.tuple #[]) ∧ w' = w.setCell ⟨b, 1, none⟩ (.bool true) := by
  have c1 := two_cell1 hb
  have f1 := two_free (j := 1) hb
  clear hb
  go_enter Yba.func16, Yba.ntmps16
  go_wp2
  go_end0
  exact ⟨rfl, rfl⟩

theorem next_no' (B b n : Nat) (v : Value) (xs : List Value) (w : World) (hb : w.heap[b]? = some (.cells #[v, .bool false] 47 (0, 0)))
    (ho : w.ownsRow B 5 1 v n xs) (hB : B ≤ b) :
    Calls Yba.prog 16 #[.pointer (some ⟨b, 0, none⟩)] w fun e w' => e = .returned (.tuple #[]) ∧ w'.heap[b]? = some (.cells #[v, .bool true] 47 (0, 0)) ∧ w'.ownsRow B 5 1 v n xs ∧ Below B w w' := by
  refine (next_no b v w hb).mono fun e w' ⟨he, hw⟩ => ?_
  subst hw
  exact ⟨he, two_set1 hb, ownsRow_setCell_other ho (own_other ho hb) _, (Below.refl _ _).setCell (by exact hB) _⟩

set_option maxHeartbeats 400000 in
theorem next_yes (B b n : Nat) (v : Value) (xs : List Value) (w : World) (hb : w.heap[b]? = some (.cells #[v, .bool true] 47 (0, 0)))
    (ho : w.ownsRow B 5 1 v n xs) (hB : B ≤ b) (hn : n ≤ 1024) :
    Calls Yba.prog 16 #[.pointer (some ⟨b, 0, none⟩)] w fun e w' => e = .returned (.tuple #[]) ∧ ∃ g cap, w'.heap[b]? = some (.cells #[.slice (some ⟨g, 0, none⟩) (n + 1) cap, .bool true] 47 (0, 0)) ∧ w'.ownsRow B 5 1 (.slice (some ⟨g, 0, none⟩) (n + 1) cap) (n + 1) (xs ++ [.int .u8 9]) ∧ Below B w w' := by
  obtain ⟨i0, hi, hz0, hz1, hz2⟩ := info_parts info5
  have c0 := two_cell0 hb
  have c1 := two_cell1 hb
  have hlt := lt_of_block hb
  go_enter Yba.func16, Yba.ntmps16
  go_wp2_with (at_builtin; refine wpList_append_own _ rfl _ _ 22 rfl B 5 i0 (.int .u8 0) 1 1 Yba.underlying22 hi hz0 hz1 hz2 rfl (by decide) _ _ _ rfl (ho.alloc _) ⟨w.heap.size, 0, none⟩ 1 1 [.int .u8 9] rfl rfl ?c1 ?c2 ?c3 ?c4 ?c5 ?_)
  case c1 =>
    intro j u hj
    match j, hj with
    | 0, hj => simp at hj; subst hj; simp [Addr.add]
  case c2 => intro u hu; simp at hu; subst hu; rfl
  case c3 => unfold maxLen; omega
  case c4 => omega
  case c5 => simp; omega
  · intro v' w1 hown' hgrow _
    have hbl1 : w1.heap[b]? = some (.cells #[v, .bool true] 47 (0, 0)) := by
      rw [hgrow.block b (by simp; omega) (fun e => own_other ho hb e.symm), Below.heap_alloc _ _ _ hlt]
      exact hb
    have f0 := two_free (j := 0) hbl1
    have d0 := two_cell0 hbl1
    have d1 := two_cell1 hbl1
    have f1 := two_free (j := 1) hbl1
    have hbel : Below B w w1 := ((Below.refl B w).alloc (by omega) _).grown hgrow (by simp; omega) (fun k hk => (ho.lt k hk).1)
    obtain ⟨g, cap, hv⟩ : ∃ g cap, v' = .slice (some ⟨g, 0, none⟩) (n + 1) cap := by
      rcases hown'.2 with ⟨_, h⟩ | ⟨g, cap, cur, hv, _⟩
      · omega
      · exact ⟨g, cap, hv⟩
    have hset := two_set1 (x := .bool true) (two_set0 (x := v') hbl1)
    have ho2 : ((w1.setCell ⟨b, 0, none⟩ v').setCell ⟨b, 1, none⟩ (.bool true)).ownsRow B 5 1 v' (n + 1) (xs ++ [.int .u8 9]) := ownsRow_setCell_other (ownsRow_setCell_other hown' (own_other hown' hbl1) _) (own_other hown' hbl1) _
    have hb2 : Below B w ((w1.setCell ⟨b, 0, none⟩ v').setCell ⟨b, 1, none⟩ (.bool true)) := (hbel.setCell (by exact hB) _).setCell (by exact hB) _
    rw [hv] at hset ho2 hb2 ⊢
    have R := (⟨hset, ho2, hb2⟩ : _ ∧ _ ∧ _)
    have HR := (show Hid _ from R)
    clear R hset ho2 hb2 hown' hgrow hbl1 hbel hv hb ho c0 c1 hi hz0 hz1 hz2
    go_wp2
    go_end0
    exact ⟨rfl, g, cap, HR.out.1, HR.out.2.1, HR.out.2.2⟩

end Go.Proofs.Ybulkwms.lawS1136BNext
