/- '(*arena).newChunk'. -/
import Derived.Test.YbulkwowArena
import Derived.LaidEqlPtr
namespace Go.Proofs.Ybulkwow
open Go.RowKit
set_option linter.unusedVariables false

theorem slice_of_own {w : World} {B e n : Nat} {v : Value} {xs : List Value} (ho : w.ownsRow B e 1 v (n + 1) xs) : ∃ g cap, v = .slice (some ⟨g, 0, none⟩) (n + 1) cap ∧ B ≤ g ∧ g < w.heap.size := by
  rcases ho.2 with ⟨_, h⟩ | ⟨g, cap, cur, rfl, hB, hh, _⟩
  · omega
  · exact ⟨g, cap, rfl, hB, lt_of_block hh⟩

theorem own_apart {w : World} {B B' e e' n n' : Nat} {v v' : Value} {xs xs' : List Value} (h : w.ownsRow B e 1 v n xs) (h' : w.ownsRow B' e' 1 v' n' xs') (hne : e ≠ e') : ∀ k, v'.ownBlock = some k → v.ownBlock ≠ some k := by
  intro k hk hv
  rcases h.2 with ⟨rfl, _⟩ | ⟨g, cap, cur, rfl, _, hg, _⟩
  · simp [Value.ownBlock] at hv
  · rcases h'.2 with ⟨rfl, _⟩ | ⟨g', cap', cur', rfl, _, hg', _⟩
    · simp [Value.ownBlock] at hk
    · simp [Value.ownBlock] at hv hk
      subst hv
      subst hk
      rw [hg] at hg'
      simp at hg'
      exact hne hg'.2

set_option maxHeartbeats 1600000 in
/-- No number is free: the chunk comes behind the last. -/
theorem new_last (B b n : Nat) (v1 v2 : Value) (pf pc : Option Addr) (cf nc cc : Nat) (t h hd : Int) (xs ys : List Value) (w : World) (ha : Ar w b v1 v2 (.slice pf 0 cf) t h hd)
    (h1 : w.ownsRow B 23 1 v1 n xs) (h2 : w.ownsRow B 3 1 v2 n ys) (hB : B ≤ b) (hn : n ≤ 64) :
    Calls Yba.prog 5 #[.pointer (some ⟨b, 0, none⟩), .slice pc nc cc] w fun e w' => e = .returned (.int .i64 (n : Int)) ∧ ∃ g1 c1 g2 c2, Ar w' b (.slice (some ⟨g1, 0, none⟩) (n + 1) c1) (.slice (some ⟨g2, 0, none⟩) (n + 1) c2) (.slice pf 0 cf) t h hd ∧
      w'.ownsRow B 23 1 (.slice (some ⟨g1, 0, none⟩) (n + 1) c1) (n + 1) (xs ++ [.slice pc nc cc]) ∧ w'.ownsRow B 3 1 (.slice (some ⟨g2, 0, none⟩) (n + 1) c2) (n + 1) (ys ++ [.int .i64 0]) ∧ Kp (Tn b v1 v2) w w' := by
  obtain ⟨i1, hi, hz0, hz1, hz2⟩ := info_parts info23
  obtain ⟨i2, ki, kz0, kz1, kz2⟩ := info_parts info3
  obtain ⟨c0, cc1, cc2, _, _, _⟩ := ha.cells
  have hlt := ha.lt
  have HA : Hid (Ar w b v1 v2 (.slice pf 0 cf) t h hd) := ha
  have H1 : Hid (w.ownsRow B 23 1 v1 n xs) := h1
  have H2 : Hid (w.ownsRow B 3 1 v2 n ys) := h2
  clear ha h1 h2
  go_enter Yba.func5, Yba.ntmps5
  go_wp2_with (at_builtin; refine wpList_append_own _ rfl (.tmp 50) (.tmp 52) 24 rfl B 23 i1 (.slice none 0 0) 1 24 Yba.underlying24 hi hz0 hz1 hz2 rfl (by decide) _ n xs rfl (H1.out.alloc _) ⟨w.heap.size, 0, none⟩ 1 1 [.slice pc nc cc] rfl rfl ?c1 ?c2 ?c3 ?c4 ?c5 ?_)
  case c1 =>
    intro j u hj
    match j, hj with
    | 0, hj => simp at hj; subst hj; simp [Addr.add]
  case c2 => intro u hu; simp at hu; subst hu; rfl
  case c3 => unfold maxLen; omega
  case c4 => omega
  case c5 => simp; omega
  intro v1' w1 ho1 hg1 _
  obtain ⟨g1, k1, hv1, _, _⟩ := slice_of_own ho1
  have K1 : Kp (Tn b v1 v2) w w1 := ((Kp.refl _ w).alloc _).grown hg1 (fun k hk _ => .inr (.inl hk))
  have A1 : Ar w1 b v1 v2 (.slice pf 0 cf) t h hd := HA.out.kept ((hg1.block b (by simp; omega) (fun e => HA.out.other H1.out (by decide) e.symm)).trans (Below.heap_alloc _ _ _ hlt))
  have O2 : w1.ownsRow B 3 1 v2 n ys := (H2.out.alloc _).kept hg1 (by
    by_cases q : v2.ownBlock = none
    · exact .inl q
    · right
      intro e
      obtain ⟨k, hk⟩ := Option.ne_none_iff_exists'.1 q
      exact own_apart H1.out H2.out (by decide) k hk (e.symm.trans hk))
  have A2 := A1.set0 v1'
  have P1 := ownsRow_setCell_other ho1 (A1.other ho1 (by decide)) v1' (a := ⟨b, 0, none⟩)
  have P2 := ownsRow_setCell_other O2 (A1.other O2 (by decide)) v1' (a := ⟨b, 0, none⟩)
  have K2 := K1.set (g := b) (j := 0) (.inl rfl) v1'
  obtain ⟨d0, d1, d2, _, _, _⟩ := A1.cells
  have f0 := A1.free 0
  have hlt1 := A1.lt
  rw [hv1] at A2 P1 P2 K2 ⊢
  obtain ⟨x0, x1, x2, _, _, _⟩ := A2.cells
  have HA2 : Hid (Ar (w1.setCell ⟨b, 0, none⟩ (.slice (some ⟨g1, 0, none⟩) (n + 1) k1)) b (.slice (some ⟨g1, 0, none⟩) (n + 1) k1) v2 (.slice pf 0 cf) t h hd) := A2
  have HP1 : Hid ((w1.setCell ⟨b, 0, none⟩ (.slice (some ⟨g1, 0, none⟩) (n + 1) k1)).ownsRow B 23 1 (.slice (some ⟨g1, 0, none⟩) (n + 1) k1) (n + 1) (xs ++ [.slice pc nc cc])) := P1
  have HP2 : Hid ((w1.setCell ⟨b, 0, none⟩ (.slice (some ⟨g1, 0, none⟩) (n + 1) k1)).ownsRow B 3 1 v2 n ys) := P2
  have HK2 : Hid (Kp (Tn b v1 v2) w (w1.setCell ⟨b, 0, none⟩ (.slice (some ⟨g1, 0, none⟩) (n + 1) k1))) := K2
  have hsz : (w1.setCell ⟨b, 0, none⟩ (.slice (some ⟨g1, 0, none⟩) (n + 1) k1)).heap.size = w1.heap.size := by simp [World.setCell]
  have HSZ := (show Hid _ from hsz)
  clear hsz A2 P1 P2 K2 A1 O2 K1 ho1 hg1 hv1 hi hz0 hz1 hz2 c0 cc1 cc2 x0
  go_wp2_with (at_builtin; refine wpList_append_own _ rfl (.tmp 60) (.tmp 61) 22 rfl B 3 i2 (.int .i64 0) 1 8 Yba.underlying22 ki kz0 kz1 kz2 rfl (by decide) _ n ys rfl (HP2.out.alloc _) ⟨w1.heap.size, 0, none⟩ 1 1 [.int .i64 0] rfl rfl ?c11 ?c12 ?c13 ?c14 ?c15 ?_)
  case c11 =>
    intro j u hj
    match j, hj with
    | 0, hj =>
      simp at hj
      subst hj
      have := World.cell?_alloc_mark (w1.setCell ⟨b, 0, none⟩ (.slice (some ⟨g1, 0, none⟩) (n + 1) k1)) #[.int .i64 0] 3 (0, 0) 0
      rw [HSZ.out] at this
      exact this
  case c12 => intro u hu; simp at hu; subst hu; rfl
  case c13 => unfold maxLen; omega
  case c14 => omega
  case c15 => rw [World.size_alloc, HSZ.out]; omega
  intro v2' w2 ho2 hg2 _
  obtain ⟨g2, k2, hv2, _, _⟩ := slice_of_own ho2
  have K3 : Kp (Tn b v1 v2) w w2 := (HK2.out.alloc _).grown hg2 (fun k hk _ => .inr (.inr hk))
  have A3 : Ar w2 b (.slice (some ⟨g1, 0, none⟩) (n + 1) k1) v2 (.slice pf 0 cf) t h hd := HA2.out.kept ((hg2.block b (by rw [World.size_alloc, HSZ.out]; omega) (fun e => HA2.out.other HP2.out (by decide) e.symm)).trans (Below.heap_alloc _ _ _ (by rw [HSZ.out]; exact hlt1)))
  have O1 : w2.ownsRow B 23 1 (.slice (some ⟨g1, 0, none⟩) (n + 1) k1) (n + 1) (xs ++ [.slice pc nc cc]) := (HP1.out.alloc _).kept hg2 (by
    right
    intro e
    exact own_apart HP2.out HP1.out (by decide) g1 rfl e.symm)
  have A4 := A3.set1 v2'
  have Q1 := ownsRow_setCell_other O1 (A3.other O1 (by decide)) v2' (a := ⟨b, 1, none⟩)
  have Q2 := ownsRow_setCell_other ho2 (A3.other ho2 (by decide)) v2' (a := ⟨b, 1, none⟩)
  have K4 := K3.set (g := b) (j := 1) (.inl rfl) v2'
  obtain ⟨e0, e1, e2, _, _, _⟩ := A3.cells
  have f1 := A3.free 1
  rw [hv2] at A4 Q1 Q2 K4 ⊢
  have R := (show Hid (Ar (w2.setCell ⟨b, 1, none⟩ (.slice (some ⟨g2, 0, none⟩) (n + 1) k2)) b (.slice (some ⟨g1, 0, none⟩) (n + 1) k1) (.slice (some ⟨g2, 0, none⟩) (n + 1) k2) (.slice pf 0 cf) t h hd ∧ _ ∧ _ ∧ _) from ⟨A4, Q1, Q2, K4⟩)
  clear A4 Q1 Q2 K4 A3 O1 K3 ho2 hg2 hv2 ki kz0 kz1 kz2
  go_wp2_with fail
  go_ret
  exact ⟨rfl, g1, k1, g2, k2, R.out⟩

set_option maxHeartbeats 800000 in
theorem same_nil (w : World) : Calls Yba.prog 6 #[.slice none 0 0, .slice none 0 0] w fun e w' => e = .returned (.bool true) ∧ ∃ m, w' = w.drewN m := by
  have hnil := fun (w : World) => Lib.run_eql_slice_nil (P := Yba.prog) w 23 5 none 0 0 0 0 Yba.underlying23
  go_enter Yba.func6, Yba.ntmps6
  go_wp2
  go_ret
  exact ⟨rfl, 0, rfl⟩

set_option maxHeartbeats 800000 in
theorem same_some (g n c : Nat) (w : World) (hn : 0 < n) (hn2 : n ≤ 4096) : Calls Yba.prog 6 #[.slice (some ⟨g, 0, none⟩) n c, .slice (some ⟨g, 0, none⟩) n c] w fun e w' => e = .returned (.bool true) ∧ ∃ m, w' = w.drewN m := by
  have h0 : (0 : Int) < (n : Int) := by omega
  have h1 : ((n : Int) == 0) = false := by simp; omega
  obtain ⟨i5, hi5, _⟩ := info_parts info5
  have hptr := fun (w : World) => run_eql_ptr_same (P := Yba.prog) w ⟨g, 0, none⟩ Yba.underlying36 hi5
  clear hi5
  go_enter Yba.func6, Yba.ntmps6
  go_wp2
  go_quiet (fail)
  go_wp2
  go_ret
  exact ⟨rfl, _, rfl⟩

end Go.Proofs.Ybulkwow
