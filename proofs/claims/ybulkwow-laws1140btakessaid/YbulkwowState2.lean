/- What 'LawS1140BTakes' keeps: behind the free numbers. -/
import Derived.Test.YbulkwowState
namespace Go.Proofs.Ybulkwow
open Go.RowKit
set_option linter.unusedVariables false

theorem own_mono {w : World} {B B' e n : Nat} {v : Value} {xs : List Value} (h : w.ownsRow B e 1 v n xs) (hB : B' ≤ B) : w.ownsRow B' e 1 v n xs := by
  obtain ⟨h1, h2⟩ := h
  refine ⟨h1, ?_⟩
  rcases h2 with h2 | ⟨g, cap, cur, rfl, hg, r⟩
  · exact .inl h2
  · exact .inr ⟨g, cap, cur, rfl, by omega, r⟩
theorem own_slice {w : World} {B e n : Nat} {v : Value} {xs : List Value} (h : w.ownsRow B e 1 v n xs) : ∃ p c, v = .slice p n c := by
  rcases h.2 with ⟨rfl, rfl⟩ | ⟨g, cap, cur, rfl, _⟩
  · exact ⟨_, _, rfl⟩
  · exact ⟨_, _, rfl⟩
theorem fv_one (F : List Nat) : ∀ u ∈ fv F, u.oneCell' = true := by
  intro u hu
  simp [fv] at hu
  obtain ⟨f, _, rfl⟩ := hu
  rfl

/-- 'origFree' is made. -/
def P4 (w : World) (m : Nat) (t h hd : Int) (L D : List Value) (gc gd ge Bf k : Nat) (vf : Value) (F : List Nat) (gh : Nat) (wr : World) : Prop :=
  P3 w m t h hd L D gc gd ge Bf k vf F wr ∧ wr.ownsRow w.heap.size 3 1 (.slice (some ⟨gh, 0, none⟩) k k) k (fv F)

theorem P3.kp {w a b : World} {m gc gd ge Bf k : Nat} {vf : Value} {t h hd : Int} {L D : List Value} {F : List Nat} (p : P3 w m t h hd L D gc gd ge Bf k vf F a) {S : Nat → Prop} (kp : Kp S a b) (hS : ∀ g, g < a.heap.size → ¬ S g) : P3 w m t h hd L D gc gd ge Bf k vf F b := by
  obtain ⟨⟨o1, o2, o3, o4⟩, o5, ha, hb, hn, hF, hB⟩ := p
  have keep : ∀ (B e n : Nat) (v : Value) (xs : List Value), a.ownsRow B e 1 v n xs → b.ownsRow B e 1 v n xs := fun B e n v xs o => kp.own o (fun g hg => hS g (o.lt g hg).2)
  exact ⟨⟨keep _ _ _ _ _ o1, keep _ _ _ _ _ o2, keep _ _ _ _ _ o3, keep _ _ _ _ _ o4⟩, keep _ _ _ _ _ o5, ha.kept (kp.2 _ ha.lt (hS _ ha.lt)), hb.trans (kp.below hb.size (fun g hg => hS g (by have := hb.size; omega))), hn, hF, Nat.le_trans hB kp.1.size⟩

theorem stepG {w wc w9 : World} {m gc gd ge Bf k : Nat} {vf : Value} {t h hd : Int} {L D : List Value} {F : List Nat} (p : P3 w m t h hd L D gc gd ge Bf k vf F wc) (hBf : w.heap.size ≤ Bf)
    (ho : w9.ownsRow w.heap.size 3 1 (.slice (some ⟨wc.heap.size, 0, none⟩) k k) k (madeCells #[.int .i64 0] k).toList) (hg : wc.grownBy w9 none) :
    w9.cell? ⟨w.heap.size, 2, none⟩ = some vf ∧ ∃ W10, (Builtin.copy_ #[22, 22] 3 #[.slice (some ⟨wc.heap.size, 0, none⟩) k k, vf]).run Yba.prog w9 = .ok (.int .i64 (k : Int)) W10 ∧ wc.heap.size < W10.heap.size ∧ P4 w m t h hd L D gc gd ge Bf k vf F wc.heap.size W10 := by
  have p9 : P3 w m t h hd L D gc gd ge Bf k vf F w9 := p.kp ((Kp.refl (fun _ => False) wc).grown hg (fun k hk _ => by cases hk)) (fun _ _ q => q)
  obtain ⟨W10, hr, o, kp⟩ := copy_own 22 3 Yba.underlying22 (by kernel_rfl) w9 w.heap.size wc.heap.size k k vf _ (fv F) (made_own ho) (own_mono p9.2.1 hBf) (fv_one F)
  have kp0 : Kp (fun g => g = wc.heap.size) wc W10 := ((Kp.refl _ wc).grown hg (fun k hk _ => by cases hk)).trans kp
  exact ⟨p9.2.2.1.cells.2.2.1, W10, hr, (own_cap o).2.2.1, p.kp kp0 (fun g hg q => by omega), o⟩

/-- The chunk is made, and its first byte laid. -/
theorem stepH {w W10 w11 : World} {m gc gd ge Bf k gh : Nat} {vf : Value} {t h hd : Int} {L D : List Value} {F : List Nat} (p : P4 w m t h hd L D gc gd ge Bf k vf F gh W10) (hg : W10.grownBy w11 none) (v : Value) :
    P4 w m t h hd L D gc gd ge Bf k vf F gh (w11.setCell ⟨W10.heap.size, 0, none⟩ v) := by
  have kp : Kp (fun g => g = W10.heap.size) W10 (w11.setCell ⟨W10.heap.size, 0, none⟩ v) := ((Kp.refl (fun g => g = W10.heap.size) W10).grown hg (fun k hk _ => by cases hk)).set (g := W10.heap.size) (by rfl) v
  exact ⟨p.1.kp kp (fun g hg q => by omega), kp.own p.2 (fun g hg => by have := (p.2.lt g hg).2; omega)⟩

/-- What the law's last tests read. -/
def Fin (w : World) (m : Nat) (t h hd : Int) (L D : List Value) (ge x1 x2 n1 c1 c2 cI : Nat) (ck vf : Value) (wr : World) : Prop :=
  Ar wr w.heap.size (.slice (some ⟨x1, 0, none⟩) n1 c1) (.slice (some ⟨x2, 0, none⟩) n1 c2) vf t h hd ∧ wr.cell? ⟨x1, cI, none⟩ = some ck ∧ wr.cell? ⟨x2, cI, none⟩ = some (.int .i64 0) ∧
  (∀ i, i < m → i ≠ cI → wr.cell? ⟨x1, i, none⟩ = L[i]? ∧ wr.cell? ⟨x2, i, none⟩ = D[i]?) ∧ (∀ i, i < m → wr.cell? ⟨w.heap.size + 1, i, none⟩ = L[i]? ∧ wr.cell? ⟨ge, i, none⟩ = D[i]?) ∧ Below w.heap.size w wr

theorem Fin.drewN {w wr : World} {m ge x1 x2 n1 c1 c2 cI : Nat} {t h hd : Int} {L D : List Value} {ck vf : Value} (f : Fin w m t h hd L D ge x1 x2 n1 c1 c2 cI ck vf wr) (q : Nat) : Fin w m t h hd L D ge x1 x2 n1 c1 c2 cI ck vf (wr.drewN q) := by
  obtain ⟨a, b, c, d, e, g⟩ := f
  exact ⟨a, b, c, d, e, below_drewN g q⟩

theorem fin_last {w W w' : World} {m gc gd ge Bf gh g1 c1 g2 c2 : Nat} {vf ck : Value} {t h hd : Int} {L D : List Value} {F : List Nat} {k : Nat} (p : P4 w m t h hd L D gc gd ge Bf k vf F gh W)
    (d1 : gc ≠ w.heap.size + 1) (d2 : gd ≠ ge) (ha : Ar w' w.heap.size (.slice (some ⟨g1, 0, none⟩) (m + 1) c1) (.slice (some ⟨g2, 0, none⟩) (m + 1) c2) vf t h hd)
    (o1 : w'.ownsRow w.heap.size 23 1 (.slice (some ⟨g1, 0, none⟩) (m + 1) c1) (m + 1) (L ++ [ck])) (o2 : w'.ownsRow w.heap.size 3 1 (.slice (some ⟨g2, 0, none⟩) (m + 1) c2) (m + 1) (D ++ [.int .i64 0]))
    (kp : Kp (Tn w.heap.size (.slice (some ⟨gc, 0, none⟩) m m) (.slice (some ⟨gd, 0, none⟩) m m)) W w') : Fin w m t h hd L D ge g1 g2 (m + 1) c1 c2 m ck vf w' := by
  obtain ⟨⟨⟨q1, q2, q3, q4⟩, q5, qa, qb, qn, qF, qB⟩, q6⟩ := p
  have hL : L.length = m := by simpa using q1.1
  have hD : D.length = m := by simpa using q3.1
  have e2 : ge ≠ w.heap.size := fun e => qa.other q4 (by decide) (by simp [Value.ownBlock, e])
  have e3 : gc ≠ ge := fun e => own_apart q2 q4 (by decide) ge rfl (by simp [Value.ownBlock, e])
  have e4 : w.heap.size + 1 ≠ gd := fun e => own_apart q1 q3 (by decide) gd rfl (by simp [Value.ownBlock, e])
  have k1 := kp.own q1 (fun g hg q => by
    simp [Value.ownBlock] at hg
    rcases q with q | q | q
    · omega
    · simp [Value.ownBlock] at q; omega
    · simp [Value.ownBlock] at q; omega)
  have k4 := kp.own q4 (fun g hg q => by
    simp [Value.ownBlock] at hg
    rcases q with q | q | q
    · omega
    · simp [Value.ownBlock] at q; omega
    · simp [Value.ownBlock] at q; omega)
  refine ⟨ha, own_some o1 (by simp [← hL]) (by omega), own_some o2 (by simp [← hD]) (by omega), fun i hi _ => ⟨?_, ?_⟩, fun i hi => ⟨k1.cellAt i (by omega), k4.cellAt i (by omega)⟩, ?_⟩
  · rw [o1.cellAt i (by omega), List.getElem?_append_left (by omega)]
  · rw [o2.cellAt i (by omega), List.getElem?_append_left (by omega)]
  · refine qb.trans (kp.below qb.size (fun g hg q => ?_))
    rcases q with q | q | q
    · omega
    · have := (own_cap q2).2.1; simp [Value.ownBlock] at q; omega
    · have := (own_cap q3).2.1; simp [Value.ownBlock] at q; omega

theorem fin_taken {w W w' : World} {m gc gd ge Bf gh f k : Nat} {vf vf' ck : Value} {t h hd : Int} {L D : List Value} {F : List Nat} (p : P4 w m t h hd L D gc gd ge Bf k vf F gh W)
    (d1 : gc ≠ w.heap.size + 1) (d2 : gd ≠ ge) (d3 : gd ≠ gh) (hf : f < m) (ha : Ar w' w.heap.size (.slice (some ⟨gc, 0, none⟩) m m) (.slice (some ⟨gd, 0, none⟩) m m) vf' t h hd)
    (o1 : w'.ownsRow w.heap.size 23 1 (.slice (some ⟨gc, 0, none⟩) m m) m (L.set f ck)) (o2 : w'.ownsRow w.heap.size 3 1 (.slice (some ⟨gd, 0, none⟩) m m) m (D.set f (.int .i64 0)))
    (kp : Kp (fun j => j = w.heap.size ∨ j = gc ∨ j = gd) W w') :
    Fin w m t h hd L D ge gc gd m m m f ck vf' w' ∧ w'.ownsRow w.heap.size 3 1 (.slice (some ⟨gh, 0, none⟩) k k) k (fv F) := by
  obtain ⟨⟨⟨q1, q2, q3, q4⟩, q5, qa, qb, qn, qF, qB⟩, q6⟩ := p
  have hL : L.length = m := by simpa using q1.1
  have hD : D.length = m := by simpa using q3.1
  have e2 : ge ≠ w.heap.size := fun e => qa.other q4 (by decide) (by simp [Value.ownBlock, e])
  have e3 : gc ≠ ge := fun e => own_apart q2 q4 (by decide) ge rfl (by simp [Value.ownBlock, e])
  have e4 : w.heap.size + 1 ≠ gd := fun e => own_apart q1 q3 (by decide) gd rfl (by simp [Value.ownBlock, e])
  have e5 : gh ≠ w.heap.size := fun e => qa.other q6 (by decide) (by simp [Value.ownBlock, e])
  have e6 : gc ≠ gh := fun e => own_apart q2 q6 (by decide) gh rfl (by simp [Value.ownBlock, e])
  have k1 := kp.own q1 (fun g hg q => by simp [Value.ownBlock] at hg; omega)
  have k4 := kp.own q4 (fun g hg q => by simp [Value.ownBlock] at hg; omega)
  have k6 := kp.own q6 (fun g hg q => by simp [Value.ownBlock] at hg; omega)
  refine ⟨⟨ha, own_some o1 (by simp [hL, hf]) hf, own_some o2 (by simp [hD, hf]) hf, fun i hi hne => ⟨?_, ?_⟩, fun i hi => ⟨k1.cellAt i (by omega), k4.cellAt i (by omega)⟩, ?_⟩, k6⟩
  · rw [o1.cellAt i (by omega), List.getElem?_set_ne (by omega)]
  · rw [o2.cellAt i (by omega), List.getElem?_set_ne (by omega)]
  · refine qb.trans (kp.below qb.size (fun g hg q => ?_))
    have := (own_cap q2).2.1
    have := (own_cap q3).2.1
    omega

end Go.Proofs.Ybulkwow
