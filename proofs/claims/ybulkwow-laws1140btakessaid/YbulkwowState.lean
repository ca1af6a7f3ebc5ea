/- What 'LawS1140BTakes' keeps, phase by phase. -/
import Derived.Test.YbulkwowTake
namespace Go.Proofs.Ybulkwow
open Go.RowKit
set_option linter.unusedVariables false

/-- A chunk as a value: nil, or some bytes. -/
def Sl (v : Value) : Prop := v = .slice none 0 0 ∨ ∃ g n c, v = .slice (some ⟨g, 0, none⟩) n c ∧ 0 < n ∧ n ≤ 4096
def Nm (v : Value) : Prop := ∃ z : Int, v = .int .i64 z

theorem Sl.one {L : List Value} (h : ∀ v ∈ L, Sl v) : ∀ u ∈ L, u.oneCell' = true := by
  intro u hu
  rcases h u hu with rfl | ⟨g, n, c, rfl, _⟩ <;> rfl
theorem Nm.one {L : List Value} (h : ∀ v ∈ L, Nm v) : ∀ u ∈ L, u.oneCell' = true := by
  intro u hu
  obtain ⟨z, rfl⟩ := h u hu
  rfl
theorem Sl.set {L : List Value} (h : ∀ v ∈ L, Sl v) (k : Nat) {x : Value} (hx : Sl x) : ∀ v ∈ L.set k x, Sl v := by
  intro v hv
  rcases List.mem_or_eq_of_mem_set hv with hv | rfl
  · exact h v hv
  · exact hx
theorem Nm.set {L : List Value} (h : ∀ v ∈ L, Nm v) (k : Nat) {x : Value} (hx : Nm x) : ∀ v ∈ L.set k x, Nm v := by
  intro v hv
  rcases List.mem_or_eq_of_mem_set hv with hv | rfl
  · exact h v hv
  · exact hx

abbrev nl : Value := .slice none 0 0
abbrev rw0 (g m : Nat) : Value := .slice (some ⟨g, 0, none⟩) m m

/-- While 'orig' is filled. -/
def P1 (w : World) (m : Nat) (t h hd : Int) (wr : World) : Prop :=
  ∃ L, wr.ownsRow w.heap.size 23 1 (.slice (some ⟨w.heap.size + 1, 0, none⟩) m m) m L ∧ (∀ v ∈ L, Sl v) ∧ Ar wr w.heap.size (.slice none 0 0) (.slice none 0 0) (.slice none 0 0) t h hd ∧ Below w.heap.size w wr

theorem P1.step {w wr : World} {m k : Nat} {t h hd : Int} (p : P1 w m t h hd wr) (x y : Value) :
    P1 w m t h hd ((wr.setCell ⟨w.heap.size + 1, k, none⟩ (.slice (some ⟨wr.heap.size, 0, none⟩) 2 2)).alloc (.cells #[x, y] 5)) := by
  obtain ⟨L, ho, hl, ha, hb⟩ := p
  have hsz : (wr.setCell ⟨w.heap.size + 1, k, none⟩ (.slice (some ⟨wr.heap.size, 0, none⟩) 2 2)).heap.size = wr.heap.size := by simp [World.setCell]
  refine ⟨L.set k (.slice (some ⟨wr.heap.size, 0, none⟩) 2 2), ((ho.stored k _).1).alloc _, Sl.set hl k (.inr ⟨_, 2, 2, rfl, by omega, by omega⟩), ?_, ?_⟩
  · exact (ha.kept (Below.heap_setCell _ _ _ _ (by simp))).kept (Below.heap_alloc _ _ _ (by rw [hsz]; exact ha.lt))
  · exact (hb.setCell (p := ⟨w.heap.size + 1, k, none⟩) (by show w.heap.size ≤ w.heap.size + 1; omega) _).alloc (by rw [hsz]; exact hb.size) _
theorem P1.cell {w wr : World} {m k : Nat} {t h hd : Int} (p : P1 w m t h hd wr) (hk : k < m) : ∃ v, wr.cell? ⟨w.heap.size + 1, k, none⟩ = some v ∧ wr.frozen? ⟨w.heap.size + 1, k, none⟩ = false ∧ w.heap.size + 1 < wr.heap.size := by
  obtain ⟨L, ho, hl, ha, hb⟩ := p
  have hL : L.length = m := by simpa using ho.1
  exact ⟨L[k], own_some ho (by simp [hL, hk]) hk, ho.frozenAt k, (own_cap ho).2.2.1⟩


/-- 'a.chunks' is made (L': what it holds). -/
def Q1 (w : World) (m : Nat) (t h hd : Int) (L L' : List Value) (gc : Nat) (wr : World) : Prop :=
  wr.ownsRow w.heap.size 23 1 (.slice (some ⟨w.heap.size + 1, 0, none⟩) m m) m L ∧ wr.ownsRow w.heap.size 23 1 (.slice (some ⟨gc, 0, none⟩) m m) m L' ∧ Ar wr w.heap.size (.slice (some ⟨gc, 0, none⟩) m m) (.slice none 0 0) (.slice none 0 0) t h hd ∧ Below w.heap.size w wr

theorem stepA {w W1 w2 : World} {m : Nat} {t h hd : Int} {L : List Value} (ho : W1.ownsRow w.heap.size 23 1 (.slice (some ⟨w.heap.size + 1, 0, none⟩) m m) m L)
    (ha : Ar W1 w.heap.size (.slice none 0 0) (.slice none 0 0) (.slice none 0 0) t h hd) (hb : Below w.heap.size w W1)
    (ho2 : w2.ownsRow w.heap.size 23 1 (.slice (some ⟨W1.heap.size, 0, none⟩) m m) m (madeCells #[.slice none 0 0] m).toList) (hg2 : W1.grownBy w2 none) :
    Ar w2 w.heap.size (.slice none 0 0) (.slice none 0 0) (.slice none 0 0) t h hd ∧ Q1 w m t h hd L (List.replicate m (.slice none 0 0)) W1.heap.size (w2.setCell ⟨w.heap.size, 0, none⟩ (.slice (some ⟨W1.heap.size, 0, none⟩) m m)) := by
  have A1 : Ar w2 w.heap.size (.slice none 0 0) (.slice none 0 0) (.slice none 0 0) t h hd := ha.kept (hg2.block _ ha.lt (by simp))
  have O1 := ho.kept hg2 (.inr (by simp [Value.ownBlock]))
  refine ⟨A1, ownsRow_setCell_other O1 (A1.other O1 (by decide)) _, ownsRow_setCell_other (made_own ho2) (A1.other ho2 (by decide)) _, A1.set0 _, ?_⟩
  exact (hb.grown hg2 hb.size (fun k hk => by cases hk)).setCell (Nat.le_refl _) _

theorem Q1.copied {w wr : World} {m gc : Nat} {t h hd : Int} {L L' : List Value} (q : Q1 w m t h hd L L' gc wr) (hl : ∀ v ∈ L, Sl v) (hne : gc ≠ w.heap.size + 1) :
    ∃ w', (Builtin.copy_ #[24, 24] 3 #[.slice (some ⟨gc, 0, none⟩) m m, .slice (some ⟨w.heap.size + 1, 0, none⟩) m m]).run Yba.prog wr = .ok (.int .i64 (m : Int)) w' ∧ Q1 w m t h hd L L gc w' := by
  obtain ⟨o1, o2, ha, hb⟩ := q
  obtain ⟨w', hr, o3, kp⟩ := copy_own 24 23 Yba.underlying24 (by kernel_rfl) wr w.heap.size gc m m _ L' L o2 o1 (Sl.one hl)
  have hcb := own_cap o2
  have n1 : gc ≠ w.heap.size := fun e => ha.other o2 (by decide) (by simp [Value.ownBlock, e])
  refine ⟨w', hr, kp.own o1 (fun k hk => by simp [Value.ownBlock] at hk; omega), o3, ha.kept (kp.2 _ ha.lt (by omega)), hb.trans (kp.below hb.size (fun k hk => by omega))⟩

/-- 'a.dead' is made (D: what it holds). -/
def P2 (w : World) (m : Nat) (t h hd : Int) (L : List Value) (gc gd : Nat) (D : List Value) (wr : World) : Prop :=
  wr.ownsRow w.heap.size 23 1 (.slice (some ⟨w.heap.size + 1, 0, none⟩) m m) m L ∧ wr.ownsRow w.heap.size 23 1 (.slice (some ⟨gc, 0, none⟩) m m) m L ∧ wr.ownsRow w.heap.size 3 1 (.slice (some ⟨gd, 0, none⟩) m m) m D ∧
  Ar wr w.heap.size (.slice (some ⟨gc, 0, none⟩) m m) (.slice (some ⟨gd, 0, none⟩) m m) (.slice none 0 0) t h hd ∧ Below w.heap.size w wr ∧ (∀ v ∈ D, Nm v)

theorem stepC {w W3 w4 : World} {m gc : Nat} {t h hd : Int} {L : List Value} (q : Q1 w m t h hd L L gc W3) (ho2 : w4.ownsRow w.heap.size 3 1 (.slice (some ⟨W3.heap.size, 0, none⟩) m m) m (madeCells #[.int .i64 0] m).toList) (hg2 : W3.grownBy w4 none) :
    Ar w4 w.heap.size (.slice (some ⟨gc, 0, none⟩) m m) (.slice none 0 0) (.slice none 0 0) t h hd ∧ P2 w m t h hd L gc W3.heap.size (List.replicate m (.int .i64 0)) (w4.setCell ⟨w.heap.size, 1, none⟩ (.slice (some ⟨W3.heap.size, 0, none⟩) m m)) := by
  obtain ⟨o1, o2, ha, hb⟩ := q
  have A1 := ha.kept (hg2.block _ ha.lt (by simp))
  have O1 := o1.kept hg2 (.inr (by simp [Value.ownBlock]))
  have O2 := o2.kept hg2 (.inr (by simp [Value.ownBlock]))
  refine ⟨A1, ownsRow_setCell_other O1 (A1.other O1 (by decide)) _, ownsRow_setCell_other O2 (A1.other O2 (by decide)) _, ownsRow_setCell_other (made_own ho2) (A1.other ho2 (by decide)) _, A1.set1 _, (hb.grown hg2 hb.size (fun k hk => by cases hk)).setCell (Nat.le_refl _) _, ?_⟩
  intro v hv
  exact ⟨0, List.eq_of_mem_replicate hv⟩

theorem P2.step {w wr : World} {m gc gd k : Nat} {t h hd : Int} {L D : List Value} (p : P2 w m t h hd L gc gd D wr) (z : Int) :
    P2 w m t h hd L gc gd (D.set k (.int .i64 z)) (wr.setCell ⟨gd, k, none⟩ (.int .i64 z)) := by
  obtain ⟨o1, o2, o3, ha, hb, hn⟩ := p
  have n2 : gd ≠ w.heap.size := fun e => ha.other o3 (by decide) (by simp [Value.ownBlock, e])
  refine ⟨ownsRow_setCell_other o1 (own_apart o1 o3 (by decide) gd rfl) _, ownsRow_setCell_other o2 (own_apart o2 o3 (by decide) gd rfl) _, (o3.stored k _).1, ha.kept (Below.heap_setCell _ _ _ _ (fun e => n2 (by simpa using e.symm))), hb.setCell (p := ⟨gd, k, none⟩) (own_cap o3).2.1 _, Nm.set hn k ⟨z, rfl⟩⟩
theorem P2.drew {w wr : World} {m gc gd : Nat} {t h hd : Int} {L D : List Value} (p : P2 w m t h hd L gc gd D wr) : P2 w m t h hd L gc gd D wr.drew := by
  obtain ⟨o1, o2, o3, ha, hb, hn⟩ := p
  exact ⟨o1, o2, o3, ha, hb.drew, hn⟩
theorem P2.cells {w wr : World} {m gc gd k : Nat} {t h hd : Int} {L D : List Value} (p : P2 w m t h hd L gc gd D wr) (hk : k < m) :
    wr.cell? ⟨w.heap.size, 1, none⟩ = some (.slice (some ⟨gd, 0, none⟩) m m) ∧ wr.frozen? ⟨gd, k, none⟩ = false ∧ ∃ z : Int, wr.cell? ⟨gd, k, none⟩ = some (.int .i64 z) := by
  obtain ⟨o1, o2, o3, ha, hb, hn⟩ := p
  have hD : D.length = m := by simpa using o3.1
  have hc : wr.cell? ⟨gd, k, none⟩ = some D[k] := own_some o3 (by simp [hD, hk]) hk
  obtain ⟨z, hz⟩ := hn D[k] (List.getElem_mem _)
  exact ⟨ha.cells.2.1, o3.frozenAt k, z, by rw [hc, hz]⟩

/-- The free numbers as values. -/
def fv (F : List Nat) : List Value := F.map fun (f : Nat) => Value.int .i64 (f : Int)

/-- 'origDead' is made; 'a.free' is being filled. -/
def P3 (w : World) (m : Nat) (t h hd : Int) (L D : List Value) (gc gd ge Bf k : Nat) (vf : Value) (F : List Nat) (wr : World) : Prop :=
  (wr.ownsRow w.heap.size 23 1 (.slice (some ⟨w.heap.size + 1, 0, none⟩) m m) m L ∧ wr.ownsRow w.heap.size 23 1 (.slice (some ⟨gc, 0, none⟩) m m) m L ∧ wr.ownsRow w.heap.size 3 1 (.slice (some ⟨gd, 0, none⟩) m m) m D ∧ wr.ownsRow w.heap.size 3 1 (.slice (some ⟨ge, 0, none⟩) m m) m D) ∧
  wr.ownsRow Bf 3 1 vf k (fv F) ∧ Ar wr w.heap.size (.slice (some ⟨gc, 0, none⟩) m m) (.slice (some ⟨gd, 0, none⟩) m m) vf t h hd ∧ Below w.heap.size w wr ∧ (∀ v ∈ D, Nm v) ∧ (∀ f ∈ F, f < m) ∧ Bf ≤ wr.heap.size

theorem stepE {w W5 w6 : World} {m gc gd : Nat} {t h hd : Int} {L D : List Value} (p : P2 w m t h hd L gc gd D W5) (ho : w6.ownsRow w.heap.size 3 1 (.slice (some ⟨W5.heap.size, 0, none⟩) m m) m (madeCells #[.int .i64 0] m).toList) (hg : W5.grownBy w6 none) :
    Ar w6 w.heap.size (.slice (some ⟨gc, 0, none⟩) m m) (.slice (some ⟨gd, 0, none⟩) m m) (.slice none 0 0) t h hd ∧
    ∃ W7, (Builtin.copy_ #[22, 22] 3 #[.slice (some ⟨W5.heap.size, 0, none⟩) m m, .slice (some ⟨gd, 0, none⟩) m m]).run Yba.prog w6 = .ok (.int .i64 (m : Int)) W7 ∧ W5.heap.size < W7.heap.size ∧ P3 w m t h hd L D gc gd W5.heap.size W7.heap.size 0 (.slice none 0 0) [] W7 := by
  obtain ⟨o1, o2, o3, ha, hb, hn⟩ := p
  have A1 := ha.kept (hg.block _ ha.lt (by simp))
  have O1 := o1.kept hg (.inr (by simp [Value.ownBlock]))
  have O2 := o2.kept hg (.inr (by simp [Value.ownBlock]))
  have O3 := o3.kept hg (.inr (by simp [Value.ownBlock]))
  have B1 := hb.grown hg hb.size (fun k hk => by cases hk)
  obtain ⟨W7, hr, o4, kp⟩ := copy_own 22 3 Yba.underlying22 (by kernel_rfl) w6 w.heap.size W5.heap.size m m _ _ D (made_own ho) O3 (Nm.one hn)
  have l1 := (own_cap o1).2.2.1
  have l2 := (own_cap o2).2.2.1
  have l3 := (own_cap o3).2.2.1
  have l0 := ha.lt
  have b7 : Below w.heap.size w W7 := B1.trans (kp.below B1.size (fun k hk => by omega))
  refine ⟨A1, W7, hr, (own_cap o4).2.2.1, ⟨kp.own O1 (fun k hk => by simp [Value.ownBlock] at hk; omega), kp.own O2 (fun k hk => by simp [Value.ownBlock] at hk; omega), kp.own O3 (fun k hk => by simp [Value.ownBlock] at hk; omega), o4⟩, World.ownsRow_nil _ _ _ _, A1.kept (kp.2 _ A1.lt (by omega)), b7, hn, by simp, Nat.le_refl _⟩

theorem news_one (wr : World) (x : Value) : ∀ j u, [x][j]? = some u → (wr.alloc (.cells #[x] 3)).cell? ((⟨wr.heap.size, 0, none⟩ : Addr).add j) = some u := by
  intro j u hj
  match j, hj with
  | 0, hj =>
    simp at hj
    subst hj
    exact World.cell?_alloc_mark wr #[x] 3 (0, 0) 0

theorem stepF {w wr w' : World} {m gc gd ge Bf k f : Nat} {vf v' : Value} {t h hd : Int} {L D : List Value} {F : List Nat} {O : Obj} (p : P3 w m t h hd L D gc gd ge Bf k vf F wr) (hfm : f < m)
    (l1 : w.heap.size + 1 < Bf) (l2 : gc < Bf) (l3 : gd < Bf) (l4 : ge < Bf) (ho : w'.ownsRow Bf 3 1 v' (k + 1) (fv F ++ [.int .i64 (f : Int)])) (hg : (wr.alloc O).grownBy w' vf.ownBlock) :
    (w'.cell? ⟨w.heap.size, 2, none⟩ = some vf ∧ w'.frozen? ⟨w.heap.size, 2, none⟩ = false) ∧ P3 w m t h hd L D gc gd ge Bf (k + 1) v' (F ++ [f]) (w'.setCell ⟨w.heap.size, 2, none⟩ v') := by
  obtain ⟨⟨o1, o2, o3, o4⟩, o5, ha, hb, hn, hF, hB⟩ := p
  have nf : ∀ g, g < Bf → vf.ownBlock ≠ some g := fun g hg e => by have := (o5.lt g e).1; omega
  have keep : ∀ (e' n' : Nat) (g : Nat) (xs : List Value), g < Bf → wr.ownsRow w.heap.size e' 1 (.slice (some ⟨g, 0, none⟩) n' n') n' xs → w'.ownsRow w.heap.size e' 1 (.slice (some ⟨g, 0, none⟩) n' n') n' xs := fun e' n' g xs hlt o =>
    (o.alloc O).kept hg (.inr (fun e => nf g hlt (e.symm.trans rfl)))
  have A1 : Ar w' w.heap.size (.slice (some ⟨gc, 0, none⟩) m m) (.slice (some ⟨gd, 0, none⟩) m m) vf t h hd := ha.kept ((hg.block _ (by simp; have := ha.lt; omega) (fun e => nf w.heap.size (by omega) e.symm)).trans (Below.heap_alloc _ _ _ ha.lt))
  have k1 := keep 23 m (w.heap.size + 1) L l1 o1
  have k2 := keep 23 m gc L l2 o2
  have k3 := keep 3 m gd D l3 o3
  have k4 := keep 3 m ge D l4 o4
  refine ⟨⟨A1.cells.2.2.1, A1.free 2⟩, ⟨ownsRow_setCell_other k1 (A1.other k1 (by decide)) _, ownsRow_setCell_other k2 (A1.other k2 (by decide)) _, ownsRow_setCell_other k3 (A1.other k3 (by decide)) _, ownsRow_setCell_other k4 (A1.other k4 (by decide)) _⟩, ?_, A1.set2 v', ?_, hn, ?_, ?_⟩
  · have := ownsRow_setCell_other ho (A1.other ho (by decide)) v' (a := ⟨w.heap.size, 2, none⟩)
    simpa [fv] using this
  · exact ((hb.alloc hb.size O).grown hg (by have := hb.size; simp; omega) (fun g hg => by have := (o5.lt g hg).1; omega)).setCell (Nat.le_refl _) _
  · intro x hx
    rcases List.mem_append.1 hx with hx | hx
    · exact hF x hx
    · simp at hx; omega
  · have := hg.size
    simp [World.setCell] at this ⊢
    omega
theorem P3.drew {w wr : World} {m gc gd ge Bf k : Nat} {vf : Value} {t h hd : Int} {L D : List Value} {F : List Nat} (p : P3 w m t h hd L D gc gd ge Bf k vf F wr) : P3 w m t h hd L D gc gd ge Bf k vf F wr.drew := by
  obtain ⟨o, o5, ha, hb, hn, hF, hB⟩ := p
  exact ⟨o, o5, ha, hb.drew, hn, hF, hB⟩

theorem undrew {w w' : World} {r : Option Nat} (h : w.drew.grownBy w' r) : w.grownBy w' r := ⟨h.os, h.tape, h.output, h.size, h.block⟩

end Go.Proofs.Ybulkwow
