/- '(*arena).newChunk' where a number is free; copies between rows that the call owns. -/
import Derived.Test.YbulkwowNew
import Derived.Deep.RegionLaw
namespace Go.Proofs.Ybulkwow
open Go.RowKit
set_option linter.unusedVariables false

theorem elem22 : Yba.prog.elem 22 = 3 := by kernel_rfl
theorem und22 : Yba.prog.underlying 22 = some (.slice (Yba.prog.elem 22)) := by rw [elem22]; exact Yba.underlying22

theorem cut_free (gf k c : Nat) (hk : k ≤ c) (w : World) : (Instr.slice 22 (.slice (some ⟨gf, 0, none⟩) (k + 1) c) none (some (.int .i64 (k : Int))) none).run Yba.prog w = .ok (.slice (some ⟨gf, 0, none⟩) k c) w := by
  rw [run_slice_h w 22 (some ⟨gf, 0, none⟩) (k + 1) c und22 .i64 (k : Int) (by omega) (by omega), elem22]
  simp [Yba.sizeOf3, sliced, Addr.add]

theorem own_cap {w : World} {B e n g c : Nat} {xs : List Value} (h : w.ownsRow B e 1 (.slice (some ⟨g, 0, none⟩) n c) n xs) : n ≤ c ∧ B ≤ g ∧ g < w.heap.size ∧ ∃ cur, w.heap[g]? = some (.cells cur e (0, 0)) := by
  rcases h.2 with ⟨h, _⟩ | ⟨g', cap, cur, hv, hB, hg, hn, _⟩
  · simp at h
  · simp at hv
    obtain ⟨rfl, rfl⟩ := hv
    exact ⟨hn, hB, lt_of_block hg, cur, hg⟩

theorem own_some {w : World} {B e n g c j : Nat} {xs : List Value} {v : Value} (h : w.ownsRow B e 1 (.slice (some ⟨g, 0, none⟩) n c) n xs) (hj : xs[j]? = some v) (hn : j < n) : w.cell? ⟨g, j, none⟩ = some v := by
  rw [h.cellAt j (by omega)]; exact hj

set_option maxHeartbeats 1600000 in
/-- A number is free: the last of them is taken. -/
theorem new_taken (B b m k f gc cc gd cd gf cf : Nat) (pc : Option Addr) (nc qc : Nat) (t h hd : Int) (L D F : List Value) (w : World)
    (ha : Ar w b (.slice (some ⟨gc, 0, none⟩) m cc) (.slice (some ⟨gd, 0, none⟩) m cd) (.slice (some ⟨gf, 0, none⟩) (k + 1) cf) t h hd)
    (h1 : w.ownsRow B 23 1 (.slice (some ⟨gc, 0, none⟩) m cc) m L) (h2 : w.ownsRow B 3 1 (.slice (some ⟨gd, 0, none⟩) m cd) m D) (h3 : w.ownsRow B 3 1 (.slice (some ⟨gf, 0, none⟩) (k + 1) cf) (k + 1) F)
    (hf : F[k]? = some (.int .i64 (f : Int))) (hfm : f < m) (hm : m ≤ 64) (hk : k ≤ 2048) (hne : gd ≠ gf) :
    Calls Yba.prog 5 #[.pointer (some ⟨b, 0, none⟩), .slice pc nc qc] w fun e w' => e = .returned (.int .i64 (f : Int)) ∧ Ar w' b (.slice (some ⟨gc, 0, none⟩) m cc) (.slice (some ⟨gd, 0, none⟩) m cd) (.slice (some ⟨gf, 0, none⟩) k cf) t h hd ∧
      w'.ownsRow B 23 1 (.slice (some ⟨gc, 0, none⟩) m cc) m (L.set f (.slice pc nc qc)) ∧ w'.ownsRow B 3 1 (.slice (some ⟨gd, 0, none⟩) m cd) m (D.set f (.int .i64 0)) ∧ Kp (fun j => j = b ∨ j = gc ∨ j = gd) w w' := by
  have hLl : L.length = m := by simpa using h1.1
  have hDl : D.length = m := by simpa using h2.1
  obtain ⟨x0, x1, x2, _, _, _⟩ := ha.cells
  have fb := ha.free 2
  have hcut := cut_free gf k cf (by have := (own_cap h3).1; omega)
  have cF := own_some h3 hf (by omega)
  have cL : w.cell? ⟨gc, f, none⟩ = some L[f] := own_some h1 (by simp [hLl, hfm]) hfm
  have cD : w.cell? ⟨gd, f, none⟩ = some D[f] := own_some h2 (by simp [hDl, hfm]) hfm
  have fL := h1.frozenAt f
  have fD := h2.frozenAt f
  have n1 : gc ≠ b := fun e => ha.other h1 (by decide) (by simp [Value.ownBlock, e])
  have n2 : gd ≠ b := fun e => ha.other h2 (by decide) (by simp [Value.ownBlock, e])
  have n3 : gc ≠ gd := fun e => own_apart h1 h2 (by decide) gd rfl (by simp [Value.ownBlock, e])
  have n4 : gf ≠ b := fun e => ha.other h3 (by decide) (by simp [Value.ownBlock, e])
  have hfi : (f : Int) < (m : Int) := by omega
  obtain ⟨LF, hLF⟩ : ∃ LF, LF = L[f] := ⟨_, rfl⟩
  obtain ⟨DF, hDF⟩ : ∃ DF, DF = D[f] := ⟨_, rfl⟩
  rw [← hLF] at cL
  rw [← hDF] at cD
  have R : Hid (Ar (((w.setCell ⟨b, 2, none⟩ (.slice (some ⟨gf, 0, none⟩) k cf)).setCell ⟨gc, f, none⟩ (.slice pc nc qc)).setCell ⟨gd, f, none⟩ (.int .i64 0)) b (.slice (some ⟨gc, 0, none⟩) m cc) (.slice (some ⟨gd, 0, none⟩) m cd) (.slice (some ⟨gf, 0, none⟩) k cf) t h hd ∧
      (((w.setCell ⟨b, 2, none⟩ (.slice (some ⟨gf, 0, none⟩) k cf)).setCell ⟨gc, f, none⟩ (.slice pc nc qc)).setCell ⟨gd, f, none⟩ (.int .i64 0)).ownsRow B 23 1 (.slice (some ⟨gc, 0, none⟩) m cc) m (L.set f (.slice pc nc qc)) ∧
      (((w.setCell ⟨b, 2, none⟩ (.slice (some ⟨gf, 0, none⟩) k cf)).setCell ⟨gc, f, none⟩ (.slice pc nc qc)).setCell ⟨gd, f, none⟩ (.int .i64 0)).ownsRow B 3 1 (.slice (some ⟨gd, 0, none⟩) m cd) m (D.set f (.int .i64 0)) ∧
      Kp (fun j => j = b ∨ j = gc ∨ j = gd) w (((w.setCell ⟨b, 2, none⟩ (.slice (some ⟨gf, 0, none⟩) k cf)).setCell ⟨gc, f, none⟩ (.slice pc nc qc)).setCell ⟨gd, f, none⟩ (.int .i64 0))) := by
    have A1 := ha.set2 (.slice (some ⟨gf, 0, none⟩) k cf)
    have A2 := A1.kept (Below.heap_setCell (w.setCell ⟨b, 2, none⟩ (.slice (some ⟨gf, 0, none⟩) k cf)) ⟨gc, f, none⟩ (.slice pc nc qc) b (fun e => n1 e.symm))
    have A3 := A2.kept (Below.heap_setCell ((w.setCell ⟨b, 2, none⟩ (.slice (some ⟨gf, 0, none⟩) k cf)).setCell ⟨gc, f, none⟩ (.slice pc nc qc)) ⟨gd, f, none⟩ (.int .i64 0) b (fun e => n2 e.symm))
    refine ⟨A3, ?_, ?_, (((Kp.refl _ w).set (.inl rfl) _).set (.inr (.inl rfl)) _).set (.inr (.inr rfl)) _⟩
    · have o1 := ownsRow_setCell_other h1 (a := ⟨b, 2, none⟩) (by simp [Value.ownBlock, n1]) (.slice (some ⟨gf, 0, none⟩) k cf)
      have o2 := (o1.stored f (.slice pc nc qc)).1
      exact ownsRow_setCell_other o2 (a := ⟨gd, f, none⟩) (by simp [Value.ownBlock, n3]) (.int .i64 0)
    · have o1 := ownsRow_setCell_other h2 (a := ⟨b, 2, none⟩) (by simp [Value.ownBlock, n2]) (.slice (some ⟨gf, 0, none⟩) k cf)
      have o2 := ownsRow_setCell_other o1 (a := ⟨gc, f, none⟩) (by simp [Value.ownBlock]; omega) (.slice pc nc qc)
      exact (o2.stored f (.int .i64 0)).1
  clear ha h1 h2 h3 hf hLF hDF hLl hDl
  go_enter Yba.func5, Yba.ntmps5
  go_wp2_with fail
  go_region
  all_goals (try go_wp2)
  go_ret
  exact ⟨rfl, R.out.1, R.out.2.1, R.out.2.2.1, R.out.2.2.2.drew⟩

theorem made_own {w : World} {B e n : Nat} {z : Value} {v : Value} (h : w.ownsRow B e 1 v n (madeCells #[z] n).toList) : w.ownsRow B e 1 v n (List.replicate n z) := by
  rw [toList_madeCells_one] at h; exact h

/-- 'copy(dst, src)' between two rows that the call owns. -/
theorem copy_own (t e : TypeId) (ht : Yba.prog.underlying t = some (.slice e)) (hsz : (Yba.prog.info? e).map (·.size) = some 1) (w : World) (B g n cap : Nat) (v : Value) (xs L : List Value)
    (hd : w.ownsRow B e 1 (.slice (some ⟨g, 0, none⟩) n cap) n xs) (hs : w.ownsRow B e 1 v n L) (h1 : ∀ u ∈ L, u.oneCell' = true) :
    ∃ w', (Builtin.copy_ #[t, t] 3 #[.slice (some ⟨g, 0, none⟩) n cap, v]).run Yba.prog w = .ok (.int .i64 (n : Int)) w' ∧ w'.ownsRow B e 1 (.slice (some ⟨g, 0, none⟩) n cap) n L ∧ Kp (fun j => j = g) w w' := by
  have hLl : L.length = n := by simpa using hs.1
  rcases hs.2 with ⟨rfl, rfl⟩ | ⟨g', c', cur', rfl, _⟩
  · obtain rfl : L = [] := List.eq_nil_of_length_eq_zero hLl
    obtain rfl : xs = [] := List.eq_nil_of_length_eq_zero (by simpa using hd.1)
    exact ⟨w, run_copy_none (P := Yba.prog) w t t 3 e (some ⟨g, 0, none⟩) none 0 cap 0 0 ht hsz rfl, hd, Kp.refl _ _⟩
  · rcases hd.2 with ⟨h, _⟩ | ⟨g2, c2, cur, hv, hB, hg, hn, hm, hcs, _⟩
    · simp at h
    · simp at hv
      obtain ⟨rfl, rfl⟩ := hv
      have hr := run_copy_row (P := Yba.prog) w t t 3 e g 0 n cap ⟨g', 0, none⟩ n c' cur e L ht hsz hg (by rw [hLl]; exact (Nat.min_self _).symm) (hs.cells (g := g') rfl) (by omega) h1
      refine ⟨_, by rw [hr, hLl]; rfl, ⟨by omega, .inr ⟨g, cap, _, rfl, hB, setRow_heap w g cur _ e _ hg, hn, hm, ?_, ?_⟩⟩, ⟨below_setRow (Below.refl _ _) (Nat.zero_le _) _, fun k _ hk => setRow_other w g k _ hk⟩⟩
      · simp; omega
      · simp only [Nat.mul_one, List.take_zero, List.nil_append]
        rw [List.take_append_of_le_length (by omega), List.take_of_length_le (by omega)]

/-- append onto a row that the call owns, as one step of a region that draws. -/
theorem step_append_own {P : Program} {ops : Array Oper} {o : Oper} {a : Act} {w : World} {K : Act → World → Prop} {Q : Exit → Act → World → Prop} {E : Prop}
    (hg : o.guard = none) (s x : Operand) (t : TypeId) (ho : o.op = .call { callee := .builtin .append, args := #[s, x], argTypes := #[t, t] })
    (base : Nat) (e : TypeId) (i : TypeInfo) (z : Value) (size bytes : Nat) (ht : P.underlying t = some (.slice e)) (hi : P.info? e = some i) (hz : i.zero = some z)
    (hsize : i.size = size) (hby : i.bytes = bytes) (hzs : z.cells.size = size) (hsz : 0 < size)
    (v : Value) (n : Nat) (xs : List Value) (hs : a.eval s = v) (hown : w.ownsRow base e size v n xs)
    (ad : Addr) (m c : Nat) (news : List Value) (hx : a.eval x = .slice (some ad) m c) (hl : news.length = m * size) (hnews : ∀ j u, news[j]? = some u → w.cell? (ad.add j) = some u) (h1 : ∀ u ∈ news, u.oneCell' = true)
    (h63 : n + m ≤ maxLen) (hbytes : (n + m) * bytes ≤ 140737488355328) (hbase : base ≤ w.heap.size)
    (h : ∀ v' w', w'.ownsRow base e size v' (n + m) (xs ++ news) → w.grownBy w' v.ownBlock → K (a.put o.dst v') w') :
    if Region.wanted o (yielded ops a.tmps) = true then Oper.wp P o a w K Q else E := by
  have hw : Region.wanted o (yielded ops a.tmps) = true := by simp [Region.wanted, hg]
  rw [if_pos hw]
  exact wp_append_own w s x t ho base e i z size bytes ht hi hz hsize hby hzs hsz v n xs hs hown ad m c news hx hl hnews h1 h63 hbytes hbase fun v' w' h2 h3 _ => h v' w' h2 h3

end Go.Proofs.Ybulkwow
