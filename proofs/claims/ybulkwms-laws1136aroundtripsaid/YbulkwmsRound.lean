/- The walk of 'LawS1136ARoundTrip'. -/
import Derived.Test.YbulkwmsPut
namespace Go.Proofs.Ybulkwms
open Go.RowKit Go.Shelf
set_option linter.unusedVariables false
open lawS1136BNext (two_cell0 two_cell1 two_free two_set0 two_set1 info5)

theorem made12 {w : World} {B g : Nat} {xs : List Value} (h : w.ownsRow B 5 1 (.slice (some ⟨g, 0, none⟩) 12 12) 12 xs) : ∃ cur : List Value, w.heap[g]? = some (.cells cur.toArray 5 (0, 0)) ∧ cur.length = 12 ∧ B ≤ g := by
  rcases h.2 with ⟨h, _⟩ | ⟨g', cap, cur, hv, hB, hg, _, _, hs, _⟩
  · simp at h
  · simp at hv
    obtain ⟨rfl, rfl⟩ := hv
    exact ⟨cur.toList, by simpa using hg, by simpa using hs, hB⟩

theorem splice12 (cur : List Value) (hc : cur.length = 12) (a b : List UInt8) (ha : a.length = 8) (hb : b.length = 4) :
    splice (splice cur 0 (Lib.byteCells a)) 8 (Lib.byteCells b) = Lib.byteCells (a ++ b) := by
  have h1 : (Lib.byteCells a).length = 8 := by rw [Lib.byteCells_length, ha]
  have h2 : (Lib.byteCells b).length = 4 := by rw [Lib.byteCells_length, hb]
  unfold splice
  rw [List.take_zero, List.nil_append, h1, h2, List.take_left' h1, List.drop_eq_nil_of_le (by simp [h1, hc]), List.append_nil]
  simp [Lib.byteCells]

theorem own12 {w : World} {B : Nat} {cs : List UInt8} (hc : cs.length = 12) (h : w.heap[B]? = some (.cells (Lib.byteCells cs).toArray 5 (0, 0))) : w.ownsRow B 5 1 (.slice (some ⟨B, 0, none⟩) 12 12) 12 (Lib.byteCells cs) := by
  refine ⟨by simp [Lib.byteCells_length, hc], .inr ⟨B, 12, _, rfl, Nat.le_refl _, h, Nat.le_refl _, by unfold maxLen; omega, by simp [Lib.byteCells_length, hc], ?_⟩⟩
  show List.take (12 * 1) (Lib.byteCells cs) = _
  exact List.take_of_length_le (by simp [Lib.byteCells_length, hc])

theorem lists12 (H C : Nat) (U : List UInt8) (hH : H < 18446744073709551616) (hC : C < 4294967296) :
    Lib.beNat (((Lib.beBytes 8 H ++ Lib.beBytes 4 C) ++ U).take 8) = H ∧ ((Lib.beBytes 8 H ++ Lib.beBytes 4 C) ++ U).drop 8 = Lib.beBytes 4 C ++ U ∧ Lib.beNat ((Lib.beBytes 4 C ++ U).take 4) = C ∧ (Lib.beBytes 4 C ++ U).drop 4 = U := by
  have e8 : (256 : Nat) ^ 8 = 18446744073709551616 := by decide
  have e4 : (256 : Nat) ^ 4 = 4294967296 := by decide
  refine ⟨?_, ?_, ?_, ?_⟩
  · rw [List.append_assoc, List.take_left' (Lib.beBytes_length 8 H)]; exact Lib.beNat_beBytes 8 H (by omega)
  · rw [List.append_assoc, List.drop_left' (Lib.beBytes_length 8 H)]
  · rw [List.take_left' (Lib.beBytes_length 4 C)]; exact Lib.beNat_beBytes 4 C (by omega)
  · exact List.drop_left' (Lib.beBytes_length 4 C)

theorem posts_no {w : World} {d H C N : Nat} {c n : Int} (hH : H < 18446744073709551616) (hC : C < 4294967296) (hN : N < 4294967296) (fC : wrap32 (C : Int) = c) (fN : wrap32 (N : Int) = n)
    (h : Dc w d ((Lib.beBytes 8 H ++ Lib.beBytes 4 C) ++ Lib.uvarint N)) : Posts w d H c n 0 (some []) := by
  obtain ⟨l1, l2, l3, l4⟩ := lists12 H C (Lib.uvarint N) hH hC
  have hl := Lib.uvarint_length64 (x := N) (by omega)
  have hp := Lib.uvarint_pos N
  have hr := uvarint_round N [] (by omega)
  rw [List.append_nil] at hr
  have := post_D h (by simp [Lib.beBytes_length]; omega) (by simp [Lib.beBytes_length]) l2.symm (by simp [Lib.beBytes_length]) l4.symm hr (by omega) (List.drop_eq_nil_of_le (Nat.le_refl _))
  rw [l1, l3, fC, fN] at this
  exact this

theorem posts_yes {w : World} {d H C N : Nat} {c n k : Int} {tl : List UInt8} (htl : tl.length ≤ 1024) (hH : H < 18446744073709551616) (hC : C < 4294967296) (hN : N < 4294967296) (k0 : -9223372036854775808 ≤ k) (k1 : k ≤ 9223372036854775807) (fC : wrap32 (C : Int) = c) (fN : wrap32 (N : Int) = n)
    (h : Dc w d ((Lib.beBytes 8 H ++ Lib.beBytes 4 C) ++ (Lib.uvarint N ++ (Lib.uvarint (Lib.zigzag k) ++ tl)))) : Posts w d H c n k (some tl) := by
  obtain ⟨l1, l2, l3, l4⟩ := lists12 H C (Lib.uvarint N ++ (Lib.uvarint (Lib.zigzag k) ++ tl)) hH hC
  have hl := Lib.uvarint_length64 (x := N) (by omega)
  have hp := Lib.uvarint_pos N
  have hl2 := Lib.uvarint_length64 (x := Lib.zigzag k) (zigzag_lt k0 k1)
  have hp2 := Lib.uvarint_pos (Lib.zigzag k)
  have hr := uvarint_round N (Lib.uvarint (Lib.zigzag k) ++ tl) (by omega)
  have hv := varint_round k tl k0 k1
  have := post_F h (by simp [Lib.beBytes_length]; omega) (by simp [Lib.beBytes_length]) l2.symm (by simp [Lib.beBytes_length]) l4.symm hr (by omega) (List.drop_left' rfl).symm (by simp; omega) hv (by omega)
  rw [l1, l3, fC, fN, List.drop_left' rfl] at this
  exact this

/-- 'append(b, tail...)' -/
theorem append_tail {w : World} {B n len cap : Nat} {v : Value} {bs tl : List UInt8} {p : Option Addr} (ho : w.ownsRow B 5 1 v n (Lib.byteCells bs)) (h : Hs w p len cap tl) (hp : p = none → len = 0 ∧ cap = 0) (hn : n ≤ 2048) (hl : len ≤ 1024) (hB : B ≤ w.heap.size) :
    ∃ v' w1, (Builtin.append_ #[22, 22] 22 #[v, .slice p len cap]).run Yba.prog w = .ok v' w1 ∧ w1.ownsRow B 5 1 v' (n + len) (Lib.byteCells (bs ++ tl)) ∧ Below B w w1 := by
  obtain ⟨i0, hi, hz0, hz1, hz2⟩ := info_parts info5
  cases p with
  | none =>
    obtain ⟨rfl, rfl⟩ := hp rfl
    obtain rfl := List.eq_nil_of_length_eq_zero h.1
    exact ⟨v, w, run_append_owned_none (P := Yba.prog) w B 22 22 5 i0 1 Yba.underlying22 hi v n _ ho, by simpa using ho, Below.refl _ _⟩
  | some a =>
    obtain ⟨v', w', hr, ho', hg, _⟩ := run_append_own (P := Yba.prog) w B 22 22 5 i0 (.int .u8 0) 1 1 Yba.underlying22 hi hz0 hz1 hz2 rfl (by decide) v n _ ho a len cap (tl.map fun b => Value.int .u8 (b.toNat : Int)) (by simp [h.1]) h.src (by intro u hu; simp at hu; obtain ⟨b, _, rfl⟩ := hu; rfl) (by unfold maxLen; omega) (by omega) hB
    exact ⟨v', w', hr, by simpa [Lib.byteCells] using ho', (Below.refl _ _).grown hg hB (fun k hk => (ho.lt k hk).1)⟩

set_option maxHeartbeats 1600000 in
theorem round_no (H C N : Nat) (c n k : Int) (p : Option Addr) (len cap : Nat) (w : World) (hlen : len ≤ 1024) (hH : H < 18446744073709551616) (hC : C < 4294967296) (hN : N < 4294967296)
    (eC : IntKind.u32.wrap c = (C : Int)) (eN : IntKind.u32.wrap n = (N : Int)) (fC : wrap32 (C : Int) = c) (fN : wrap32 (N : Int) = n) :
    Calls Yba.prog 4 #[.int .u64 (H : Int), .int .i32 c, .int .i32 n, .int .i64 k, .bool false, .slice p len cap] w fun e w' => e = .returned (.bool true) ∧ Below w.heap.size w w' := by
  obtain ⟨i0, hi, hz0, hz1, hz2⟩ := info_parts info5
  have HF : Hid (wrap32 (C : Int) = c ∧ wrap32 (N : Int) = n) := ⟨fC, fN⟩
  clear fC fN
  go_enter Yba.func4, Yba.ntmps4
  go_wp2_with (at_make; refine wpList_make_full _ rfl _ _ 22 rfl w.heap.size 5 i0 (.int .u8 0) 1 Yba.underlying22 hi hz0 hz1 _ _ _ _ 12 rfl rfl rfl rfl (by rw [hz2]; omega) (by unfold maxLen; omega) (Nat.le_refl _) ?_)
  intro w1 hown1 hgrow1
  obtain ⟨cur, hb1, hcl, _⟩ := made12 hown1
  have HG1 : Hid (w.grownBy w1 none) := hgrow1
  clear hown1 hgrow1 hi hz0 hz1 hz2
  have hP1 : Calls Yba.prog 12 #[.agg #[], .slice (some ⟨w.heap.size, 0, none⟩) 8 12, .int .u64 (H : Int)] w1.drew fun e w' => e = .returned (.tuple #[]) ∧ Hid (w'.heap[w.heap.size]? = some (.cells (splice cur 0 (Lib.byteCells (Lib.beBytes 8 H))).toArray 5 (0, 0))) ∧ Hid (w1.drew.grownBy w' (some w.heap.size)) := put64 w.heap.size H hH cur w1.drew hb1 hcl
  clear hb1
  go_wp2
  go_region_with (go_at_call 12; refine hP1.mono ?_; rintro e w2 ⟨rfl, hb2, hg2⟩)
  have hl2 : (splice cur 0 (Lib.byteCells (Lib.beBytes 8 H))).length = 12 := by rw [length_splice _ _ _ (by simp [Lib.byteCells_length, Lib.beBytes_length, hcl]), hcl]
  have hP2 : Calls Yba.prog 13 #[.agg #[], .slice (some ⟨w.heap.size, 8, none⟩) 4 4, .int .u32 (C : Int)] w2.drew fun e w' => e = .returned (.tuple #[]) ∧ Hid (w'.heap[w.heap.size]? = some (.cells (splice (splice cur 0 (Lib.byteCells (Lib.beBytes 8 H))) 8 (Lib.byteCells (Lib.beBytes 4 C))).toArray 5 (0, 0))) ∧ Hid (w2.drew.grownBy w' (some w.heap.size)) := put32 w.heap.size C hC _ w2.drew hb2.out hl2
  clear hl2
  go_wp2
  go_region_with (go_at_call 13; refine hP2.mono ?_; rintro e w3 ⟨rfl, hb3, hg3⟩)
  have ho3 : w3.ownsRow w.heap.size 5 1 (.slice (some ⟨w.heap.size, 0, none⟩) 12 12) 12 (Lib.byteCells (Lib.beBytes 8 H ++ Lib.beBytes 4 C)) := by
    have h := hb3.out
    rw [splice12 cur hcl _ _ (Lib.beBytes_length _ _) (Lib.beBytes_length _ _)] at h
    exact own12 (by simp [Lib.beBytes_length]) h
  have hB3 : Below w.heap.size w w3 := (((((Below.refl _ _).grown HG1.out (Nat.le_refl _) (fun k hk => by cases hk)).drew).grown hg2.out HG1.out.size (fun k hk => by simp at hk; omega)).drew).grown hg3.out (Nat.le_trans HG1.out.size hg2.out.size) (fun k hk => by simp at hk; omega)
  have hP3 := appU w.heap.size 12 N (by omega) _ _ w3 ho3 hB3.size (by omega)
  have HB3 : Hid (Below w.heap.size w w3) := hB3
  clear ho3 hB3 hP1 hP2 hcl hb2 hg2 hb3 hg3 HG1
  have hlU := Lib.uvarint_length64 (x := N) (by omega)
  go_wp2_with fail
  refine hP3.mono ?_
  rintro e w4 ⟨v4, rfl, ho4, hB4⟩
  have HB4 : Hid (Below w.heap.size w w4) := HB3.out.trans hB4
  clear hP3 HB3 hB4
  obtain ⟨p4, c4, hv4, hs4⟩ := Hs.own ho4
  obtain ⟨bs, hbs⟩ : ∃ bs, bs = (Lib.beBytes 8 H ++ Lib.beBytes 4 C) ++ Lib.uvarint N := ⟨_, rfl⟩
  rw [← hbs] at hs4
  have hbl : bs.length = 12 + (Lib.uvarint N).length := hs4.1
  rw [hv4]
  rw [← hbl] at hs4 ⊢
  have hP := posts_no (w := w4.alloc (.cells #[.slice p4 bs.length c4, .bool false] 24)) (d := w4.heap.size) hH hC hN HF.out.1 HF.out.2 ⟨p4, c4, by rw [← hbs]; exact heap_alloc_new w4 _, by rw [← hbs]; exact hs4.below ((Below.refl _ _).alloc (Nat.le_refl _) _)⟩
  have hb5 : bs.length ≤ 2048 := by omega
  clear ho4 hv4 hs4 hbs hbl hlU
  go_wp2_with fail
  refine Calls.mono hP ?_
  rintro e w5 ⟨rfl, hst, hg⟩
  obtain ⟨p5, k5, hd5, hs5⟩ := hst
  have hdl := lt_of_block hd5
  have y0 := two_cell0 hd5
  have y1 := two_cell1 hd5
  rw [List.length_nil] at y0
  have hB5 : Below w.heap.size w w5 := (HB4.out.alloc HB4.out.size _).grown hg (by have := HB4.out.size; simp; omega) (fun k hk => by simp at hk; have := HB4.out.size; omega)
  have AE : Calls Yba.prog 11 #[.slice p5 0 k5, .slice none 0 0] (w5.alloc (.cells #[.int .u64 (H : Int), .int .i32 c, .int .i32 n] 27)) fun e w' => e = .returned (.bool true) ∧ w' = w5.alloc (.cells #[.int .u64 (H : Int), .int .i32 c, .int .i32 n] 27) := equal_same (bs := []) (hs5.below ((Below.refl _ _).alloc (Nat.le_refl _) _)) (Hs.nil _)
  have HBW : Hid (Below w.heap.size w (w5.alloc (.cells #[.int .u64 (H : Int), .int .i32 c, .int .i32 n] 27))) := hB5.alloc hB5.size _
  clear hP hd5 hs5 hg hB5
  go_wp2_with fail
  refine AE.mono ?_
  rintro e w6 ⟨rfl, rfl⟩
  go_wp2_with fail
  go_ret
  exact ⟨rfl, HBW.out⟩

set_option maxHeartbeats 1600000 in
theorem round_yes (H C N : Nat) (c n k : Int) (p : Option Addr) (len cap : Nat) (tl : List UInt8) (w : World) (hlen : len ≤ 1024) (hH : H < 18446744073709551616) (hC : C < 4294967296) (hN : N < 4294967296)
    (eC : IntKind.u32.wrap c = (C : Int)) (eN : IntKind.u32.wrap n = (N : Int)) (fC : wrap32 (C : Int) = c) (fN : wrap32 (N : Int) = n) (k0 : -9223372036854775808 ≤ k) (k1 : k ≤ 9223372036854775807) (ht : Hs w p len cap tl) (hp : p = none → len = 0 ∧ cap = 0) :
    Calls Yba.prog 4 #[.int .u64 (H : Int), .int .i32 c, .int .i32 n, .int .i64 k, .bool true, .slice p len cap] w fun e w' => e = .returned (.bool true) ∧ Below w.heap.size w w' := by
  obtain ⟨i0, hi, hz0, hz1, hz2⟩ := info_parts info5
  have HT : Hid (Hs w p len cap tl ∧ (p = none → len = 0 ∧ cap = 0)) := ⟨ht, hp⟩
  clear ht hp
  have HF : Hid (wrap32 (C : Int) = c ∧ wrap32 (N : Int) = n) := ⟨fC, fN⟩
  clear fC fN
  go_enter Yba.func4, Yba.ntmps4
  go_wp2_with (at_make; refine wpList_make_full _ rfl _ _ 22 rfl w.heap.size 5 i0 (.int .u8 0) 1 Yba.underlying22 hi hz0 hz1 _ _ _ _ 12 rfl rfl rfl rfl (by rw [hz2]; omega) (by unfold maxLen; omega) (Nat.le_refl _) ?_)
  intro w1 hown1 hgrow1
  obtain ⟨cur, hb1, hcl, _⟩ := made12 hown1
  have HG1 : Hid (w.grownBy w1 none) := hgrow1
  clear hown1 hgrow1 hi hz0 hz1 hz2
  have hP1 : Calls Yba.prog 12 #[.agg #[], .slice (some ⟨w.heap.size, 0, none⟩) 8 12, .int .u64 (H : Int)] w1.drew fun e w' => e = .returned (.tuple #[]) ∧ Hid (w'.heap[w.heap.size]? = some (.cells (splice cur 0 (Lib.byteCells (Lib.beBytes 8 H))).toArray 5 (0, 0))) ∧ Hid (w1.drew.grownBy w' (some w.heap.size)) := put64 w.heap.size H hH cur w1.drew hb1 hcl
  clear hb1
  go_wp2
  go_region_with (go_at_call 12; refine hP1.mono ?_; rintro e w2 ⟨rfl, hb2, hg2⟩)
  have hl2 : (splice cur 0 (Lib.byteCells (Lib.beBytes 8 H))).length = 12 := by rw [length_splice _ _ _ (by simp [Lib.byteCells_length, Lib.beBytes_length, hcl]), hcl]
  have hP2 : Calls Yba.prog 13 #[.agg #[], .slice (some ⟨w.heap.size, 8, none⟩) 4 4, .int .u32 (C : Int)] w2.drew fun e w' => e = .returned (.tuple #[]) ∧ Hid (w'.heap[w.heap.size]? = some (.cells (splice (splice cur 0 (Lib.byteCells (Lib.beBytes 8 H))) 8 (Lib.byteCells (Lib.beBytes 4 C))).toArray 5 (0, 0))) ∧ Hid (w2.drew.grownBy w' (some w.heap.size)) := put32 w.heap.size C hC _ w2.drew hb2.out hl2
  clear hl2
  go_wp2
  go_region_with (go_at_call 13; refine hP2.mono ?_; rintro e w3 ⟨rfl, hb3, hg3⟩)
  have ho3 : w3.ownsRow w.heap.size 5 1 (.slice (some ⟨w.heap.size, 0, none⟩) 12 12) 12 (Lib.byteCells (Lib.beBytes 8 H ++ Lib.beBytes 4 C)) := by
    have h := hb3.out
    rw [splice12 cur hcl _ _ (Lib.beBytes_length _ _) (Lib.beBytes_length _ _)] at h
    exact own12 (by simp [Lib.beBytes_length]) h
  have hB3 : Below w.heap.size w w3 := (((((Below.refl _ _).grown HG1.out (Nat.le_refl _) (fun k hk => by cases hk)).drew).grown hg2.out HG1.out.size (fun k hk => by simp at hk; omega)).drew).grown hg3.out (Nat.le_trans HG1.out.size hg2.out.size) (fun k hk => by simp at hk; omega)
  have hP3 := appU w.heap.size 12 N (by omega) _ _ w3 ho3 hB3.size (by omega)
  have HB3 : Hid (Below w.heap.size w w3) := hB3
  clear ho3 hB3 hP1 hP2 hcl hb2 hg2 hb3 hg3 HG1
  have hlU := Lib.uvarint_length64 (x := N) (by omega)
  go_wp2_with fail
  refine hP3.mono ?_
  rintro e w4 ⟨v4, rfl, ho4, hB4⟩
  have HB4 : Hid (Below w.heap.size w w4) := HB3.out.trans hB4
  clear hP3 HB3 hB4
  have hlV := Lib.uvarint_length64 (x := Lib.zigzag k) (zigzag_lt k0 k1)
  have hP4 := appV w.heap.size _ k k0 k1 _ _ w4 ho4 HB4.out.size (by omega)
  clear ho4
  go_wp2_with fail
  refine hP4.mono ?_
  rintro e w5 ⟨v5, rfl, ho5, hB5⟩
  have HB5 : Hid (Below w.heap.size w w5) := HB4.out.trans hB5
  clear hP4 HB4 hB5
  obtain ⟨v6, w6, hrun, ho6, hB6⟩ := append_tail ho5 (HT.out.1.below HB5.out) HT.out.2 (by omega) hlen HB5.out.size
  have HB6 : Hid (Below w.heap.size w w6) := HB5.out.trans hB6
  obtain ⟨p4, c4, hv4, hs4⟩ := Hs.own ho6
  obtain ⟨bs, hbs⟩ : ∃ bs, bs = (Lib.beBytes 8 H ++ Lib.beBytes 4 C) ++ (Lib.uvarint N ++ (Lib.uvarint (Lib.zigzag k) ++ tl)) := ⟨_, rfl⟩
  have hbs' : (Lib.beBytes 8 H ++ Lib.beBytes 4 C) ++ Lib.uvarint N ++ Lib.uvarint (Lib.zigzag k) ++ tl = bs := by rw [hbs]; simp only [List.append_assoc]
  rw [hbs'] at hs4
  have hbl : bs.length = 12 + (Lib.uvarint N).length + (Lib.uvarint (Lib.zigzag k)).length + len := hs4.1
  rw [← hbl] at hs4 hv4
  rw [hv4] at hrun
  have hP := posts_yes (w := w6.alloc (.cells #[.slice p4 bs.length c4, .bool false] 24)) (d := w6.heap.size) (tl := tl) (by have := HT.out.1.1; omega) hH hC hN k0 k1 HF.out.1 HF.out.2 ⟨p4, c4, by rw [← hbs]; exact heap_alloc_new w6 _, by rw [← hbs]; exact hs4.below ((Below.refl _ _).alloc (Nat.le_refl _) _)⟩
  have hb5 : bs.length ≤ 2048 := by omega
  clear ho5 ho6 hv4 hs4 hbs hbs' hbl hlU hlV hB6
  go_wp2_with (at_builtin; refine Lib.wpList_append_run _ rfl _ _ 22 22 rfl _ _ rfl rfl _ _ hrun ?_)
  clear hrun
  refine Calls.mono hP ?_
  rintro e w7 ⟨rfl, hst, hg⟩
  obtain ⟨p7, k7, hd7, hs7⟩ := hst
  have hdl := lt_of_block hd7
  have y0 := two_cell0 hd7
  have y1 := two_cell1 hd7
  have htl : tl.length = len := HT.out.1.1
  have hB7 : Below w.heap.size w w7 := (HB6.out.alloc HB6.out.size _).grown hg (by have := HB6.out.size; simp; omega) (fun k hk => by simp at hk; have := HB6.out.size; omega)
  rw [htl] at y0 hs7
  have AE : Calls Yba.prog 11 #[.slice p7 len k7, .slice p len cap] (w7.alloc (.cells #[.int .u64 (H : Int), .int .i32 c, .int .i32 n] 27)) fun e w' => e = .returned (.bool true) ∧ w' = w7.alloc (.cells #[.int .u64 (H : Int), .int .i32 c, .int .i32 n] 27) := by
    have h1 := hs7.below ((Below.refl _ _).alloc (Nat.le_refl _) (.cells #[.int .u64 (H : Int), .int .i32 c, .int .i32 n] 27))
    have h2 := HT.out.1.below (hB7.alloc hB7.size (.cells #[.int .u64 (H : Int), .int .i32 c, .int .i32 n] 27))
    rw [← htl] at h1 h2 ⊢
    exact equal_same h1 h2
  have HBW : Hid (Below w.heap.size w (w7.alloc (.cells #[.int .u64 (H : Int), .int .i32 c, .int .i32 n] 27))) := hB7.alloc hB7.size _
  clear hP hd7 hs7 hg hB7 htl
  go_wp2_with fail
  refine AE.mono ?_
  rintro e w8 ⟨rfl, rfl⟩
  go_wp2_with fail
  go_ret
  exact ⟨rfl, HBW.out⟩

end Go.Proofs.Ybulkwms
