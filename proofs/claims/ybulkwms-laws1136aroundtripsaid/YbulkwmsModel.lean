/- The walk of 'LawS1136AModel'. -/
import Derived.Test.YbulkwmsCases
import Derived.Test.YbulkwmsAbe
import Derived.Lib.AppendZeros
namespace Go.Proofs.Ybulkwms
open Go.RowKit Go.Shelf
set_option linter.unusedVariables false
open lawS1136BNext (two_cell0 two_cell1 two_free two_set0 two_set1 info5)

theorem Hs.below {w w' : World} {p : Option Addr} {n c : Nat} {bs : List UInt8} (h : Hs w p n c bs) (hb : Below w.heap.size w w') : Hs w' p n c bs :=
  h.kept fun g o v hc => by rw [hb.cell (World.block_lt_of_cell? _ _ hc)]; exact hc

/-- What an owned row holds. -/
theorem Hs.own {w : World} {B n : Nat} {v : Value} {bs : List UInt8} (h : w.ownsRow B 5 1 v n (bs.map fun b => Value.int .u8 (b.toNat : Int))) : ∃ p c, v = .slice p n c ∧ Hs w p n c bs := by
  have hl : bs.length = n := by simpa using h.1
  rcases h.2 with ⟨rfl, h0⟩ | ⟨g, cap, cur, rfl, _, _, hnc, _⟩
  · subst h0
    exact ⟨none, 0, rfl, by simpa using hl, Nat.le_refl _, .inl rfl⟩
  · refine ⟨_, cap, rfl, hl, hnc, .inr ⟨g, 0, rfl, fun j hj => ?_⟩⟩
    rw [Nat.zero_add, h.cellAt j (by omega)]
    simp [hj]

theorem Hs.src {w : World} {a : Addr} {n c : Nat} {bs : List UInt8} (h : Hs w (some a) n c bs) : ∀ j u, (bs.map fun b => Value.int .u8 (b.toNat : Int))[j]? = some u → w.cell? (a.add j) = some u := by
  intro j u hj
  obtain ⟨hl, hc, h3⟩ := h
  have hj' : j < bs.length := by have := (List.getElem?_eq_some_iff.1 hj).1; simpa using this
  rcases h3 with h3 | ⟨g, o, e, h3⟩
  · omega
  · simp at e
    subst e
    rw [addr_add, h3 j hj']
    simp [hj'] at hj
    rw [hj]

/-- 'append([]byte(nil), data...)' -/
theorem append_copy {w : World} {p : Option Addr} {n c : Nat} {bs : List UInt8} (h : Hs w p n c bs) (hp : p = none → n = 0 ∧ c = 0) (hn : n ≤ 1024) :
    ∃ p' c' w1, (Builtin.append_ #[22, 22] 22 #[.slice none 0 0, .slice p n c]).run Yba.prog w = .ok (.slice p' n c') w1 ∧ Hs w1 p' n c' bs ∧ Below w.heap.size w w1 := by
  obtain ⟨i0, hi, hz0, hz1, hz2⟩ := info_parts info5
  cases p with
  | none =>
    obtain ⟨rfl, rfl⟩ := hp rfl
    obtain rfl := List.eq_nil_of_length_eq_zero h.1
    exact ⟨none, 0, w, run_append_owned_none (P := Yba.prog) w w.heap.size 22 22 5 i0 1 Yba.underlying22 hi (.slice none 0 0) 0 [] (World.ownsRow_nil _ _ _ _), Hs.nil w, Below.refl _ _⟩
  | some a =>
    obtain ⟨v', w', hr, ho, hg, _⟩ := run_append_own (P := Yba.prog) w w.heap.size 22 22 5 i0 (.int .u8 0) 1 1 Yba.underlying22 hi hz0 hz1 hz2 rfl (by decide) (.slice none 0 0) 0 [] (World.ownsRow_nil _ _ _ _) a n c (bs.map fun b => Value.int .u8 (b.toNat : Int)) (by simp [h.1]) h.src (by intro u hu; simp at hu; obtain ⟨b, _, rfl⟩ := hu; rfl) (by unfold maxLen; omega) (by omega) (Nat.le_refl _)
    rw [Nat.zero_add, List.nil_append] at ho
    obtain ⟨p', c', rfl, hs⟩ := Hs.own ho
    exact ⟨p', c', w', hr, hs, (Below.refl _ _).grown hg (Nat.le_refl _) (fun k hk => by simp [Value.ownBlock] at hk)⟩

theorem cutL {w : World} {p : Option Addr} {c : Nat} {bs b1 : List UInt8} (h : Hs w p bs.length c bs) (k : Nat) (hk : k ≤ bs.length) (e : b1 = bs.drop k) :
    ∃ q c1, (∀ w', (Instr.slice 22 (.slice p bs.length c) (some (.int .i64 (k : Int))) none none).run Yba.prog w' = .ok (.slice q b1.length c1) w') ∧ Hs w q b1.length c1 b1 := by
  obtain ⟨q, r, s⟩ := cut_from h k hk
  subst e
  rw [← List.length_drop] at s
  refine ⟨q, c - k, fun w' => ?_, s⟩
  rw [r w', List.length_drop]

/-- 'bytes.Equal' of two slices that hold the same bytes. -/
theorem equal_same {w : World} {p q : Option Addr} {c c' : Nat} {bs : List UInt8} (h : Hs w p bs.length c bs) (h' : Hs w q bs.length c' bs) :
    Calls Yba.prog 11 #[.slice p bs.length c, .slice q bs.length c'] w fun e w' => e = .returned (.bool true) ∧ w' = w := by
  have e1 := conv_str h
  have e2 := conv_str h'
  clear h h'
  go_enter Yba.func11, Yba.ntmps11
  go_wp2
  go_ret
  exact ⟨rfl, rfl⟩

set_option maxHeartbeats 1600000 in
theorem model_A (p : Option Addr) (c : Nat) (bs : List UInt8) (w : World) (h : Hs w p bs.length c bs) (hp : p = none → bs.length = 0 ∧ c = 0) (hn : bs.length ≤ 1024)
    (h8 : bs.length < 8) :
    Calls Yba.prog 3 #[.slice p bs.length c] w fun e w' => e = .returned (.bool true) ∧ Below w.heap.size w w' := by
  obtain ⟨p', c', w1, hrun, hs1, hb1⟩ := append_copy h hp hn
  have hnil := fun (w : World) => Lib.run_eql_slice_nil (P := Yba.prog) w 22 5 none 0 0 0 0 Yba.underlying22
  have hP := post_A (w := w1.alloc (.cells #[.slice p' bs.length c', .bool false] 24)) (d := w1.heap.size) ⟨p', c', heap_alloc_new w1 _, hs1.below ((Below.refl _ _).alloc (Nat.le_refl _) _)⟩ h8
  have HB1 : Hid (Below w.heap.size w w1) := hb1
  clear h hs1 hb1
  go_enter Yba.func3, Yba.ntmps3
  go_wp2_with (at_builtin; refine Lib.wpList_append_run _ rfl _ _ 22 22 rfl _ _ rfl rfl _ _ hrun ?_)
  clear hrun
  refine Calls.mono hP ?_
  rintro e w2 ⟨rfl, hst, hg⟩
  have hd4 : w2.heap[w1.heap.size]? = some (.cells #[.slice none 0 0, .bool true] 24 (0, 0)) := hst
  clear hst
  have hdl := lt_of_block hd4
  have y0 := two_cell0 hd4
  have y1 := two_cell1 hd4
  have hB2 : Below w.heap.size w w2 := (HB1.out.alloc HB1.out.size _).grown hg (by have := HB1.out.size; simp; omega) (fun k hk => by simp at hk; have := HB1.out.size; omega)
  obtain ⟨O, hO⟩ : ∃ O : Obj, O = .cells #[.int .u64 0, .int .i32 0, .int .i32 0] 27 := ⟨_, rfl⟩
  have hBW : Below w.heap.size w (w2.alloc O) := hB2.alloc hB2.size _
  rw [hO] at hBW
  have HBW := (show Hid (Below w.heap.size w (w2.alloc (.cells #[.int .u64 0, .int .i32 0, .int .i32 0] 27))) from hBW)
  clear hBW hB2 hg hd4 hO
  go_wp2_with fail
  go_ret
  exact ⟨rfl, HBW.out⟩

set_option maxHeartbeats 1600000 in
theorem model_B (p : Option Addr) (c : Nat) (bs b1 : List UInt8) (w : World) (h : Hs w p bs.length c bs) (hp : p = none → bs.length = 0 ∧ c = 0) (hn : bs.length ≤ 1024)
    (h8 : 8 ≤ bs.length) (e1 : b1 = bs.drop 8) (h4 : b1.length < 4) :
    Calls Yba.prog 3 #[.slice p bs.length c] w fun e w' => e = .returned (.bool true) ∧ Below w.heap.size w w' := by
  obtain ⟨p', c', w1, hrun, hs1, hb1⟩ := append_copy h hp hn
  have hnil := fun (w : World) => Lib.run_eql_slice_nil (P := Yba.prog) w 22 5 none 0 0 0 0 Yba.underlying22
  obtain ⟨t8, s8⟩ := cut_to h 8 h8
  obtain ⟨q1, c1, r1, z1⟩ := cutL h 8 h8 e1
  have t8' : ∀ w', (Instr.slice 22 (.slice p bs.length c) none (some (.int .i64 8)) none).run Yba.prog w' = .ok (.slice p 8 c) w' := t8
  have r1' : ∀ w', (Instr.slice 22 (.slice p bs.length c) (some (.int .i64 8)) none none).run Yba.prog w' = .ok (.slice q1 b1.length c1) w' := r1
  clear t8 r1
  have hlen1 : b1.length ≤ 1024 := by rw [e1]; simp; omega
  have hP := post_B (w := w1.alloc (.cells #[.slice p' bs.length c', .bool false] 24)) (d := w1.heap.size) ⟨p', c', heap_alloc_new w1 _, hs1.below ((Below.refl _ _).alloc (Nat.le_refl _) _)⟩ (by omega) h8 e1 h4
  have HH := (show Hid (Hs w p 8 c (bs.take 8)) from s8)
  have HB1 : Hid (Below w.heap.size w w1) := hb1
  obtain ⟨H, hH⟩ : ∃ H, H = Lib.beNat (bs.take 8) := ⟨_, rfl⟩
  rw [← hH] at hP
  have HHC := (show Hid (H = Lib.beNat (bs.take 8)) from hH)
  clear hH
  clear h hs1 hb1 s8 z1 e1
  go_enter Yba.func3, Yba.ntmps3
  go_wp2_with (at_builtin; refine Lib.wpList_append_run _ rfl _ _ 22 22 rfl _ _ rfl rfl _ _ hrun ?_)
  clear hrun
  refine Calls.mono hP ?_
  rintro e w2 ⟨rfl, hst, hg⟩
  have hd4 : w2.heap[w1.heap.size]? = some (.cells #[.slice none 0 0, .bool true] 24 (0, 0)) := hst
  clear hst
  have hdl := lt_of_block hd4
  have y0 := two_cell0 hd4
  have y1 := two_cell1 hd4
  have hB2 : Below w.heap.size w w2 := (HB1.out.alloc HB1.out.size _).grown hg (by have := HB1.out.size; simp; omega) (fun k hk => by simp at hk; have := HB1.out.size; omega)
  obtain ⟨O, hO⟩ : ∃ O : Obj, O = .cells #[.int .u64 H, .int .i32 0, .int .i32 0] 27 := ⟨_, rfl⟩
  have hBW : Below w.heap.size w (w2.alloc O) := hB2.alloc hB2.size _
  have A8 := abe p 8 c (bs.take 8) (w2.alloc O) (HH.out.below hBW) (by decide)
  rw [← HHC.out] at A8
  rw [hO] at A8 hBW
  have HBW := (show Hid (Below w.heap.size w (w2.alloc (.cells #[.int .u64 H, .int .i32 0, .int .i32 0] 27))) from hBW)
  clear hBW hB2 hg hd4 hO
  go_wp2_with fail
  refine A8.mono ?_
  rintro e w3 ⟨rfl, rfl⟩
  go_wp2_with fail
  go_ret
  exact ⟨rfl, HBW.out⟩

set_option maxHeartbeats 1600000 in
theorem model_C (p : Option Addr) (c : Nat) (bs b1 b2 : List UInt8) (w : World) (h : Hs w p bs.length c bs) (hp : p = none → bs.length = 0 ∧ c = 0) (hn : bs.length ≤ 1024)
    (h8 : 8 ≤ bs.length) (e1 : b1 = bs.drop 8) (h4 : 4 ≤ b1.length) (e2 : b2 = b1.drop 4) (v : Nat) (m : Int) (hv : Lib.uvarintDec b2 = (v, m)) (hm : m ≤ 0) :
    Calls Yba.prog 3 #[.slice p bs.length c] w fun e w' => e = .returned (.bool true) ∧ Below w.heap.size w w' := by
  obtain ⟨p', c', w1, hrun, hs1, hb1⟩ := append_copy h hp hn
  have hnil := fun (w : World) => Lib.run_eql_slice_nil (P := Yba.prog) w 22 5 none 0 0 0 0 Yba.underlying22
  obtain ⟨t8, s8⟩ := cut_to h 8 h8
  obtain ⟨q1, c1, r1, z1⟩ := cutL h 8 h8 e1
  obtain ⟨t4, s4⟩ := cut_to z1 4 h4
  obtain ⟨q2, c2, r2, z2⟩ := cutL z1 4 h4 e2
  have t8' : ∀ w', (Instr.slice 22 (.slice p bs.length c) none (some (.int .i64 8)) none).run Yba.prog w' = .ok (.slice p 8 c) w' := t8
  have r1' : ∀ w', (Instr.slice 22 (.slice p bs.length c) (some (.int .i64 8)) none none).run Yba.prog w' = .ok (.slice q1 b1.length c1) w' := r1
  clear t8 r1
  have hlen1 : b1.length ≤ 1024 := by rw [e1]; simp; omega
  have t4' : ∀ w', (Instr.slice 22 (.slice q1 b1.length c1) none (some (.int .i64 4)) none).run Yba.prog w' = .ok (.slice q1 4 c1) w' := t4
  have r2' : ∀ w', (Instr.slice 22 (.slice q1 b1.length c1) (some (.int .i64 4)) none none).run Yba.prog w' = .ok (.slice q2 b2.length c2) w' := r2
  clear t4 r2
  have hlen2 : b2.length ≤ 1024 := by rw [e2]; simp; omega
  have hP := post_C (w := w1.alloc (.cells #[.slice p' bs.length c', .bool false] 24)) (d := w1.heap.size) ⟨p', c', heap_alloc_new w1 _, hs1.below ((Below.refl _ _).alloc (Nat.le_refl _) _)⟩ (by omega) h8 e1 h4 e2 hv hm
  have HH := (show Hid (Hs w p 8 c (bs.take 8) ∧ Hs w q1 4 c1 (b1.take 4) ∧ Hs w q2 b2.length c2 b2) from ⟨s8, s4, z2⟩)
  have HE := (show Hid (Lib.uvarintDec b2 = (v, m)) from hv)
  have HB1 : Hid (Below w.heap.size w w1) := hb1
  obtain ⟨H, hH⟩ : ∃ H, H = Lib.beNat (bs.take 8) := ⟨_, rfl⟩
  obtain ⟨C, hC⟩ : ∃ C, C = Lib.beNat (b1.take 4) := ⟨_, rfl⟩
  rw [← hH, ← hC] at hP
  have hCb : C < 4294967296 := by
    have h1 := beNat_lt (b1.take 4)
    rw [← hC, show (b1.take 4).length = 4 by simp; omega] at h1
    have h2 : (256 : Nat) ^ 4 = 4294967296 := by decide
    omega
  have HHC := (show Hid (H = Lib.beNat (bs.take 8) ∧ C = Lib.beNat (b1.take 4)) from ⟨hH, hC⟩)
  clear hH hC
  clear h hs1 hb1 s8 z1 e1 s4 z2 e2 hv
  go_enter Yba.func3, Yba.ntmps3
  go_wp2_with (at_builtin; refine Lib.wpList_append_run _ rfl _ _ 22 22 rfl _ _ rfl rfl _ _ hrun ?_)
  clear hrun
  refine Calls.mono hP ?_
  rintro e w2 ⟨rfl, hst, hg⟩
  have hd4 : w2.heap[w1.heap.size]? = some (.cells #[.slice none 0 0, .bool true] 24 (0, 0)) := hst
  clear hst
  have hdl := lt_of_block hd4
  have y0 := two_cell0 hd4
  have y1 := two_cell1 hd4
  have hB2 : Below w.heap.size w w2 := (HB1.out.alloc HB1.out.size _).grown hg (by have := HB1.out.size; simp; omega) (fun k hk => by simp at hk; have := HB1.out.size; omega)
  obtain ⟨O, hO⟩ : ∃ O : Obj, O = .cells #[.int .u64 H, .int .i32 (wrap32 C), .int .i32 0] 27 := ⟨_, rfl⟩
  have hBW : Below w.heap.size w (w2.alloc O) := hB2.alloc hB2.size _
  have A8 := abe p 8 c (bs.take 8) (w2.alloc O) (HH.out.1.below hBW) (by decide)
  rw [← HHC.out.1] at A8
  have A4 := abe q1 4 c1 (b1.take 4) (w2.alloc O) (HH.out.2.1.below hBW) (by decide)
  rw [← HHC.out.2] at A4
  have AU := uvar (HH.out.2.2.below hBW)
  rw [HE.out] at AU
  rw [hO] at A8 A4 AU hBW
  have HBW := (show Hid (Below w.heap.size w (w2.alloc (.cells #[.int .u64 H, .int .i32 (wrap32 C), .int .i32 0] 27))) from hBW)
  clear hBW hB2 hg hd4 hO
  go_wp2_with fail
  refine A8.mono ?_
  rintro e w3 ⟨rfl, rfl⟩
  go_wp2_with fail
  refine A4.mono ?_
  rintro e w3 ⟨rfl, rfl⟩
  go_wp2_with fail
  refine AU.mono ?_
  rintro e w3 ⟨rfl, rfl⟩
  go_wp2_with fail
  go_ret
  exact ⟨rfl, HBW.out⟩

set_option maxHeartbeats 1600000 in
theorem model_D (p : Option Addr) (c : Nat) (bs b1 b2 : List UInt8) (w : World) (h : Hs w p bs.length c bs) (hp : p = none → bs.length = 0 ∧ c = 0) (hn : bs.length ≤ 1024)
    (h8 : 8 ≤ bs.length) (e1 : b1 = bs.drop 8) (h4 : 4 ≤ b1.length) (e2 : b2 = b1.drop 4) (v m : Nat) (hv : Lib.uvarintDec b2 = (v, (m : Int))) (hm : 0 < m) (e3 : b2.drop m = []) :
    Calls Yba.prog 3 #[.slice p bs.length c] w fun e w' => e = .returned (.bool true) ∧ Below w.heap.size w w' := by
  have hml : m ≤ b2.length := by have := uvarintDec_le b2; rw [hv] at this; simp at this; omega
  obtain ⟨p', c', w1, hrun, hs1, hb1⟩ := append_copy h hp hn
  obtain ⟨t8, s8⟩ := cut_to h 8 h8
  obtain ⟨q1, c1, r1, z1⟩ := cutL h 8 h8 e1
  obtain ⟨t4, s4⟩ := cut_to z1 4 h4
  obtain ⟨q2, c2, r2, z2⟩ := cutL z1 4 h4 e2
  obtain ⟨q3, c3, r3, z3⟩ := cutL z2 m hml e3.symm
  have r3' : ∀ w', (Instr.slice 22 (.slice q2 b2.length c2) (some (.int .i64 (m : Int))) none none).run Yba.prog w' = .ok (.slice q3 0 c3) w' := r3
  clear r3
  have t8' : ∀ w', (Instr.slice 22 (.slice p bs.length c) none (some (.int .i64 8)) none).run Yba.prog w' = .ok (.slice p 8 c) w' := t8
  have r1' : ∀ w', (Instr.slice 22 (.slice p bs.length c) (some (.int .i64 8)) none none).run Yba.prog w' = .ok (.slice q1 b1.length c1) w' := r1
  clear t8 r1
  have hlen1 : b1.length ≤ 1024 := by rw [e1]; simp; omega
  have t4' : ∀ w', (Instr.slice 22 (.slice q1 b1.length c1) none (some (.int .i64 4)) none).run Yba.prog w' = .ok (.slice q1 4 c1) w' := t4
  have r2' : ∀ w', (Instr.slice 22 (.slice q1 b1.length c1) (some (.int .i64 4)) none none).run Yba.prog w' = .ok (.slice q2 b2.length c2) w' := r2
  clear t4 r2
  have hlen2 : b2.length ≤ 1024 := by rw [e2]; simp; omega
  have hP := post_D (w := w1.alloc (.cells #[.slice p' bs.length c', .bool false] 24)) (d := w1.heap.size) ⟨p', c', heap_alloc_new w1 _, hs1.below ((Below.refl _ _).alloc (Nat.le_refl _) _)⟩ (by omega) h8 e1 h4 e2 hv hm e3
  have HH := (show Hid (Hs w p 8 c (bs.take 8) ∧ Hs w q1 4 c1 (b1.take 4) ∧ Hs w q2 b2.length c2 b2 ∧ Hs w q3 ([] : List UInt8).length c3 []) from ⟨s8, s4, z2, z3⟩)
  have HE := (show Hid (Lib.uvarintDec b2 = (v, (m : Int))) from hv)
  have HB1 : Hid (Below w.heap.size w w1) := hb1
  obtain ⟨H, hH⟩ : ∃ H, H = Lib.beNat (bs.take 8) := ⟨_, rfl⟩
  obtain ⟨C, hC⟩ : ∃ C, C = Lib.beNat (b1.take 4) := ⟨_, rfl⟩
  rw [← hH, ← hC] at hP
  have hCb : C < 4294967296 := by
    have h1 := beNat_lt (b1.take 4)
    rw [← hC, show (b1.take 4).length = 4 by simp; omega] at h1
    have h2 : (256 : Nat) ^ 4 = 4294967296 := by decide
    omega
  have HHC := (show Hid (H = Lib.beNat (bs.take 8) ∧ C = Lib.beNat (b1.take 4)) from ⟨hH, hC⟩)
  clear hH hC
  clear h hs1 hb1 s8 z1 e1 s4 z2 e2 hv z3 e3
  go_enter Yba.func3, Yba.ntmps3
  go_wp2_with (at_builtin; refine Lib.wpList_append_run _ rfl _ _ 22 22 rfl _ _ rfl rfl _ _ hrun ?_)
  clear hrun
  refine Calls.mono hP ?_
  rintro e w2 ⟨rfl, hst, hg⟩
  obtain ⟨p4, k4, hd4, hs4⟩ := hst
  have hdl := lt_of_block hd4
  have y0 := two_cell0 hd4
  have y1 := two_cell1 hd4
  have hB2 : Below w.heap.size w w2 := (HB1.out.alloc HB1.out.size _).grown hg (by have := HB1.out.size; simp; omega) (fun k hk => by simp at hk; have := HB1.out.size; omega)
  rw [List.length_nil] at y0
  obtain ⟨O, hO⟩ : ∃ O : Obj, O = .cells #[.int .u64 H, .int .i32 (wrap32 C), .int .i32 (wrap32 v)] 27 := ⟨_, rfl⟩
  have hBW : Below w.heap.size w (w2.alloc O) := hB2.alloc hB2.size _
  have A8 := abe p 8 c (bs.take 8) (w2.alloc O) (HH.out.1.below hBW) (by decide)
  rw [← HHC.out.1] at A8
  have A4 := abe q1 4 c1 (b1.take 4) (w2.alloc O) (HH.out.2.1.below hBW) (by decide)
  rw [← HHC.out.2] at A4
  have AU := uvar (HH.out.2.2.1.below hBW)
  rw [HE.out] at AU
  have AE : Calls Yba.prog 11 #[.slice p4 0 k4, .slice q3 0 c3] (w2.alloc O) fun e w' => e = .returned (.bool true) ∧ w' = w2.alloc O := equal_same (bs := []) (hs4.below ((Below.refl _ _).alloc (Nat.le_refl _) O)) (HH.out.2.2.2.below hBW)
  rw [hO] at A8 A4 AU AE hBW
  have HBW := (show Hid (Below w.heap.size w (w2.alloc (.cells #[.int .u64 H, .int .i32 (wrap32 C), .int .i32 (wrap32 v)] 27))) from hBW)
  clear hBW hB2 hg hd4 hO hs4
  have hmi : ¬ ((m : Int) ≤ 0) := by omega
  go_wp2_with fail
  refine A8.mono ?_
  rintro e w3 ⟨rfl, rfl⟩
  go_wp2_with fail
  refine A4.mono ?_
  rintro e w3 ⟨rfl, rfl⟩
  go_wp2_with fail
  refine AU.mono ?_
  rintro e w3 ⟨rfl, rfl⟩
  go_wp2_with fail
  refine AE.mono ?_
  rintro e w3 ⟨rfl, rfl⟩
  go_wp2_with fail
  go_ret
  exact ⟨rfl, HBW.out⟩

set_option maxHeartbeats 1600000 in
theorem model_E (p : Option Addr) (c : Nat) (bs b1 b2 b3 : List UInt8) (w : World) (h : Hs w p bs.length c bs) (hp : p = none → bs.length = 0 ∧ c = 0) (hn : bs.length ≤ 1024)
    (h8 : 8 ≤ bs.length) (e1 : b1 = bs.drop 8) (h4 : 4 ≤ b1.length) (e2 : b2 = b1.drop 4) (v m : Nat) (hv : Lib.uvarintDec b2 = (v, (m : Int))) (hm : 0 < m) (e3 : b3 = b2.drop m) (h3 : 0 < b3.length) (k m2 : Int) (hk : Lib.varintDec b3 = (k, m2)) (hm2 : m2 ≤ 0) :
    Calls Yba.prog 3 #[.slice p bs.length c] w fun e w' => e = .returned (.bool true) ∧ Below w.heap.size w w' := by
  have hml : m ≤ b2.length := by have := uvarintDec_le b2; rw [hv] at this; simp at this; omega
  obtain ⟨p', c', w1, hrun, hs1, hb1⟩ := append_copy h hp hn
  have hnil := fun (w : World) => Lib.run_eql_slice_nil (P := Yba.prog) w 22 5 none 0 0 0 0 Yba.underlying22
  obtain ⟨t8, s8⟩ := cut_to h 8 h8
  obtain ⟨q1, c1, r1, z1⟩ := cutL h 8 h8 e1
  obtain ⟨t4, s4⟩ := cut_to z1 4 h4
  obtain ⟨q2, c2, r2, z2⟩ := cutL z1 4 h4 e2
  obtain ⟨q3, c3, r3, z3⟩ := cutL z2 m hml e3
  have t8' : ∀ w', (Instr.slice 22 (.slice p bs.length c) none (some (.int .i64 8)) none).run Yba.prog w' = .ok (.slice p 8 c) w' := t8
  have r1' : ∀ w', (Instr.slice 22 (.slice p bs.length c) (some (.int .i64 8)) none none).run Yba.prog w' = .ok (.slice q1 b1.length c1) w' := r1
  clear t8 r1
  have hlen1 : b1.length ≤ 1024 := by rw [e1]; simp; omega
  have t4' : ∀ w', (Instr.slice 22 (.slice q1 b1.length c1) none (some (.int .i64 4)) none).run Yba.prog w' = .ok (.slice q1 4 c1) w' := t4
  have r2' : ∀ w', (Instr.slice 22 (.slice q1 b1.length c1) (some (.int .i64 4)) none none).run Yba.prog w' = .ok (.slice q2 b2.length c2) w' := r2
  clear t4 r2
  have hlen2 : b2.length ≤ 1024 := by rw [e2]; simp; omega
  have hlen3 : b3.length ≤ 1024 := by rw [e3]; simp; omega
  have hP := post_E (w := w1.alloc (.cells #[.slice p' bs.length c', .bool false] 24)) (d := w1.heap.size) ⟨p', c', heap_alloc_new w1 _, hs1.below ((Below.refl _ _).alloc (Nat.le_refl _) _)⟩ (by omega) h8 e1 h4 e2 hv hm e3 h3 hk hm2
  have HH := (show Hid (Hs w p 8 c (bs.take 8) ∧ Hs w q1 4 c1 (b1.take 4) ∧ Hs w q2 b2.length c2 b2 ∧ Hs w q3 b3.length c3 b3) from ⟨s8, s4, z2, z3⟩)
  have HE := (show Hid (Lib.uvarintDec b2 = (v, (m : Int)) ∧ Lib.varintDec b3 = (k, m2)) from ⟨hv, hk⟩)
  have HB1 : Hid (Below w.heap.size w w1) := hb1
  obtain ⟨H, hH⟩ : ∃ H, H = Lib.beNat (bs.take 8) := ⟨_, rfl⟩
  obtain ⟨C, hC⟩ : ∃ C, C = Lib.beNat (b1.take 4) := ⟨_, rfl⟩
  rw [← hH, ← hC] at hP
  have hCb : C < 4294967296 := by
    have h1 := beNat_lt (b1.take 4)
    rw [← hC, show (b1.take 4).length = 4 by simp; omega] at h1
    have h2 : (256 : Nat) ^ 4 = 4294967296 := by decide
    omega
  have HHC := (show Hid (H = Lib.beNat (bs.take 8) ∧ C = Lib.beNat (b1.take 4)) from ⟨hH, hC⟩)
  clear hH hC
  clear h hs1 hb1 s8 z1 e1 s4 z2 e2 hv z3 e3 hk
  go_enter Yba.func3, Yba.ntmps3
  go_wp2_with (at_builtin; refine Lib.wpList_append_run _ rfl _ _ 22 22 rfl _ _ rfl rfl _ _ hrun ?_)
  clear hrun
  refine Calls.mono hP ?_
  rintro e w2 ⟨rfl, hst, hg⟩
  have hd4 : w2.heap[w1.heap.size]? = some (.cells #[.slice none 0 0, .bool true] 24 (0, 0)) := hst
  clear hst
  have hdl := lt_of_block hd4
  have y0 := two_cell0 hd4
  have y1 := two_cell1 hd4
  have hB2 : Below w.heap.size w w2 := (HB1.out.alloc HB1.out.size _).grown hg (by have := HB1.out.size; simp; omega) (fun k hk => by simp at hk; have := HB1.out.size; omega)
  obtain ⟨O, hO⟩ : ∃ O : Obj, O = .cells #[.int .u64 H, .int .i32 (wrap32 C), .int .i32 (wrap32 v)] 27 := ⟨_, rfl⟩
  have hBW : Below w.heap.size w (w2.alloc O) := hB2.alloc hB2.size _
  have A8 := abe p 8 c (bs.take 8) (w2.alloc O) (HH.out.1.below hBW) (by decide)
  rw [← HHC.out.1] at A8
  have A4 := abe q1 4 c1 (b1.take 4) (w2.alloc O) (HH.out.2.1.below hBW) (by decide)
  rw [← HHC.out.2] at A4
  have AU := uvar (HH.out.2.2.1.below hBW)
  rw [HE.out.1] at AU
  have AV := svar (HH.out.2.2.2.below hBW)
  rw [HE.out.2] at AV
  rw [hO] at A8 A4 AU AV hBW
  have HBW := (show Hid (Below w.heap.size w (w2.alloc (.cells #[.int .u64 H, .int .i32 (wrap32 C), .int .i32 (wrap32 v)] 27))) from hBW)
  clear hBW hB2 hg hd4 hO
  have hmi : ¬ ((m : Int) ≤ 0) := by omega
  go_wp2_with fail
  refine A8.mono ?_
  rintro e w3 ⟨rfl, rfl⟩
  go_wp2_with fail
  refine A4.mono ?_
  rintro e w3 ⟨rfl, rfl⟩
  go_wp2_with fail
  refine AU.mono ?_
  rintro e w3 ⟨rfl, rfl⟩
  go_wp2_with fail
  refine AV.mono ?_
  rintro e w3 ⟨rfl, rfl⟩
  go_wp2_with fail
  go_ret
  exact ⟨rfl, HBW.out⟩

set_option maxHeartbeats 1600000 in
theorem model_F (p : Option Addr) (c : Nat) (bs b1 b2 b3 b4 : List UInt8) (w : World) (h : Hs w p bs.length c bs) (hp : p = none → bs.length = 0 ∧ c = 0) (hn : bs.length ≤ 1024)
    (h8 : 8 ≤ bs.length) (e1 : b1 = bs.drop 8) (h4 : 4 ≤ b1.length) (e2 : b2 = b1.drop 4) (v m : Nat) (hv : Lib.uvarintDec b2 = (v, (m : Int))) (hm : 0 < m) (e3 : b3 = b2.drop m) (h3 : 0 < b3.length) (k : Int) (m2 : Nat) (hk : Lib.varintDec b3 = (k, (m2 : Int))) (hm2 : 0 < m2) (e4 : b4 = b3.drop m2) :
    Calls Yba.prog 3 #[.slice p bs.length c] w fun e w' => e = .returned (.bool true) ∧ Below w.heap.size w w' := by
  have hml : m ≤ b2.length := by have := uvarintDec_le b2; rw [hv] at this; simp at this; omega
  have hml2 : m2 ≤ b3.length := by have := uvarintDec_le b3; rw [← varintDec_snd, hk] at this; simp at this; omega
  obtain ⟨p', c', w1, hrun, hs1, hb1⟩ := append_copy h hp hn
  obtain ⟨t8, s8⟩ := cut_to h 8 h8
  obtain ⟨q1, c1, r1, z1⟩ := cutL h 8 h8 e1
  obtain ⟨t4, s4⟩ := cut_to z1 4 h4
  obtain ⟨q2, c2, r2, z2⟩ := cutL z1 4 h4 e2
  obtain ⟨q3, c3, r3, z3⟩ := cutL z2 m hml e3
  obtain ⟨q4, c4, r4, z4⟩ := cutL z3 m2 hml2 e4
  have t8' : ∀ w', (Instr.slice 22 (.slice p bs.length c) none (some (.int .i64 8)) none).run Yba.prog w' = .ok (.slice p 8 c) w' := t8
  have r1' : ∀ w', (Instr.slice 22 (.slice p bs.length c) (some (.int .i64 8)) none none).run Yba.prog w' = .ok (.slice q1 b1.length c1) w' := r1
  clear t8 r1
  have hlen1 : b1.length ≤ 1024 := by rw [e1]; simp; omega
  have t4' : ∀ w', (Instr.slice 22 (.slice q1 b1.length c1) none (some (.int .i64 4)) none).run Yba.prog w' = .ok (.slice q1 4 c1) w' := t4
  have r2' : ∀ w', (Instr.slice 22 (.slice q1 b1.length c1) (some (.int .i64 4)) none none).run Yba.prog w' = .ok (.slice q2 b2.length c2) w' := r2
  clear t4 r2
  have hlen2 : b2.length ≤ 1024 := by rw [e2]; simp; omega
  have hlen3 : b3.length ≤ 1024 := by rw [e3]; simp; omega
  have hP := post_F (w := w1.alloc (.cells #[.slice p' bs.length c', .bool false] 24)) (d := w1.heap.size) ⟨p', c', heap_alloc_new w1 _, hs1.below ((Below.refl _ _).alloc (Nat.le_refl _) _)⟩ (by omega) h8 e1 h4 e2 hv hm e3 h3 hk hm2
  rw [← e4] at hP
  have HH := (show Hid (Hs w p 8 c (bs.take 8) ∧ Hs w q1 4 c1 (b1.take 4) ∧ Hs w q2 b2.length c2 b2 ∧ Hs w q3 b3.length c3 b3 ∧ Hs w q4 b4.length c4 b4) from ⟨s8, s4, z2, z3, z4⟩)
  have HE := (show Hid (Lib.uvarintDec b2 = (v, (m : Int)) ∧ Lib.varintDec b3 = (k, (m2 : Int))) from ⟨hv, hk⟩)
  have HB1 : Hid (Below w.heap.size w w1) := hb1
  obtain ⟨H, hH⟩ : ∃ H, H = Lib.beNat (bs.take 8) := ⟨_, rfl⟩
  obtain ⟨C, hC⟩ : ∃ C, C = Lib.beNat (b1.take 4) := ⟨_, rfl⟩
  rw [← hH, ← hC] at hP
  have hCb : C < 4294967296 := by
    have h1 := beNat_lt (b1.take 4)
    rw [← hC, show (b1.take 4).length = 4 by simp; omega] at h1
    have h2 : (256 : Nat) ^ 4 = 4294967296 := by decide
    omega
  have HHC := (show Hid (H = Lib.beNat (bs.take 8) ∧ C = Lib.beNat (b1.take 4)) from ⟨hH, hC⟩)
  clear hH hC
  clear h hs1 hb1 s8 z1 e1 s4 z2 e2 hv z3 e3 hk z4 e4
  go_enter Yba.func3, Yba.ntmps3
  go_wp2_with (at_builtin; refine Lib.wpList_append_run _ rfl _ _ 22 22 rfl _ _ rfl rfl _ _ hrun ?_)
  clear hrun
  refine Calls.mono hP ?_
  rintro e w2 ⟨rfl, hst, hg⟩
  obtain ⟨p4, k4, hd4, hs4⟩ := hst
  have hdl := lt_of_block hd4
  have y0 := two_cell0 hd4
  have y1 := two_cell1 hd4
  have hB2 : Below w.heap.size w w2 := (HB1.out.alloc HB1.out.size _).grown hg (by have := HB1.out.size; simp; omega) (fun k hk => by simp at hk; have := HB1.out.size; omega)
  obtain ⟨O, hO⟩ : ∃ O : Obj, O = .cells #[.int .u64 H, .int .i32 (wrap32 C), .int .i32 (wrap32 v)] 27 := ⟨_, rfl⟩
  have hBW : Below w.heap.size w (w2.alloc O) := hB2.alloc hB2.size _
  have A8 := abe p 8 c (bs.take 8) (w2.alloc O) (HH.out.1.below hBW) (by decide)
  rw [← HHC.out.1] at A8
  have A4 := abe q1 4 c1 (b1.take 4) (w2.alloc O) (HH.out.2.1.below hBW) (by decide)
  rw [← HHC.out.2] at A4
  have AU := uvar (HH.out.2.2.1.below hBW)
  rw [HE.out.1] at AU
  have AV := svar (HH.out.2.2.2.1.below hBW)
  rw [HE.out.2] at AV
  have AE := equal_same (hs4.below ((Below.refl _ _).alloc (Nat.le_refl _) O)) (HH.out.2.2.2.2.below hBW)
  rw [hO] at A8 A4 AU AV AE hBW
  have HBW := (show Hid (Below w.heap.size w (w2.alloc (.cells #[.int .u64 H, .int .i32 (wrap32 C), .int .i32 (wrap32 v)] 27))) from hBW)
  clear hBW hB2 hg hd4 hO hs4
  have hmi : ¬ ((m : Int) ≤ 0) := by omega
  have hmi2 : ¬ ((m2 : Int) ≤ 0) := by omega
  go_wp2_with fail
  refine A8.mono ?_
  rintro e w3 ⟨rfl, rfl⟩
  go_wp2_with fail
  refine A4.mono ?_
  rintro e w3 ⟨rfl, rfl⟩
  go_wp2_with fail
  refine AU.mono ?_
  rintro e w3 ⟨rfl, rfl⟩
  go_wp2_with fail
  refine AV.mono ?_
  rintro e w3 ⟨rfl, rfl⟩
  go_wp2_with fail
  refine AE.mono ?_
  rintro e w3 ⟨rfl, rfl⟩
  go_wp2_with fail
  go_ret
  exact ⟨rfl, HBW.out⟩

end Go.Proofs.Ybulkwms
