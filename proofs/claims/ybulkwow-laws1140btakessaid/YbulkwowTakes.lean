/- The walk of 'LawS1140BTakes'. -/
import Derived.Test.YbulkwowState2
import Derived.Deep.CutRange
namespace Go.Proofs.Ybulkwow
open Go.RowKit
set_option linter.unusedVariables false

set_option maxRecDepth 100000 in
set_option maxHeartbeats 6400000 in
theorem takes_T (n cl tg t h hd : Int) (m : Nat) (pd pf : Option Addr) (ld cd lf cf : Nat) (w : World) (hn0 : 0 ≤ n) (hn1 : n ≤ 255) (hcl0 : 0 ≤ cl) (hcl1 : cl ≤ 255) (hm : n % 40 = (m : Int)) (hld : ld ≤ 1024) (hlf : lf ≤ 1024)
    (hdd : Hid (∀ j, j < ld → ∃ x z, pd = some x ∧ w.cell? (x.add j) = some (.int .i64 z))) (hff : Hid (∀ j, j < lf → ∃ x z, pf = some x ∧ w.cell? (x.add j) = some (.int .u8 z) ∧ 0 ≤ z ∧ z ≤ 255)) :
    Calls Yba.prog 3 #[.int .u8 n, .slice pd ld cd, .slice pf lf cf, .int .u8 cl, .int .u8 tg, .int .i64 t, .int .i64 h, .int .i64 hd] w fun e w' => e = .returned (.bool true) ∧ Below w.heap.size w w' := by
  obtain ⟨i1, hi, hz0, hz1, hz2⟩ := info_parts info23
  have hm40 : m < 40 := by omega
  go_enter Yba.func3, Yba.ntmps3
  go_wp2_with (at_make; refine wpList_make_full _ rfl _ _ 24 rfl w.heap.size 23 i1 (.slice none 0 0) 1 Yba.underlying24 hi hz0 hz1 _ _ _ _ m rfl rfl (by omega) (by omega) (by rw [hz2]; omega) (by unfold maxLen; omega) (by simp) ?_)
  intro w1 ho1 hg1
  have HP : Hid (P1 w m t h hd w1) := by
    refine ⟨_, made_own (by simpa using ho1), ?_, ?_, ((Below.refl _ _).alloc (Nat.le_refl _) _).grown hg1 (by simp) (fun k hk => by cases hk)⟩
    · intro v hv
      left
      exact List.eq_of_mem_replicate hv
    · exact Ar.kept (heap_alloc_new w _) (hg1.block w.heap.size (by simp) (by simp))
  clear ho1 hg1
  go_wp2_with fail
  go_loopw [20] (fun i wr => ∃ k : Nat, k ≤ m ∧ i = .int .i64 (k : Int) ∧ Hid (P1 w m t h hd wr)) (fun i _ => m - (intOf i).toNat)
  case atStart => exact ⟨0, by omega, rfl, HP⟩
  case round =>
    obtain ⟨k, hk, rfl, hp⟩ := hrel
    clear HP
    by_cases hlt : k < m
    ·
      obtain ⟨v0, cv, fv, hsz⟩ := hp.out.cell hlt
      by_cases h3 : k % 3 = 2
      · go_wp2_with fail
        go_roundw
        case rel => exact ⟨k + 1, by omega, by go_num, hp⟩
        case measure => simp [intOf]; omega
      · go_wp2_with fail
        go_roundw
        case rel => exact ⟨k + 1, by omega, by go_num, P1.step hp.out _ _⟩
        case measure => simp [intOf]; omega
    · obtain ⟨W1, rfl⟩ : ∃ W : World, W = wr := ⟨_, rfl⟩
      obtain ⟨L, oL, hL, aL, bL⟩ := hp.out
      have HL : Hid (∀ v ∈ L, Sl v) := hL
      have hge1 := (own_cap oL).2.2.1
      have HX := (show Hid (W1.ownsRow w.heap.size 23 1 (.slice (some ⟨w.heap.size + 1, 0, none⟩) m m) m L ∧ Ar W1 w.heap.size (.slice none 0 0) (.slice none 0 0) (.slice none 0 0) t h hd ∧ Below w.heap.size w W1) from ⟨oL, aL, bL⟩)
      have hbs := bL.size
      clear oL hL aL bL hp
      go_wp2_with (at_make; refine wpList_make_full _ rfl _ _ 24 rfl w.heap.size 23 i1 (.slice none 0 0) 1 Yba.underlying24 hi hz0 hz1 _ _ _ _ m rfl rfl (by omega) (by omega) (by rw [hz2]; omega) (by unfold maxLen; omega) (by omega) ?_)
      intro w2 ho2 hg2
      obtain ⟨a2, q2⟩ := stepA HX.out.1 HX.out.2.1 HX.out.2.2 (by simpa using ho2) hg2
      have c2 := a2.cells.1
      have f2 := a2.free 0
      obtain ⟨W3, hrun, q3⟩ := q2.copied HL.out (by omega)
      have c3 := q2.2.2.1.cells.1
      have HQ3 : Hid (Q1 w m t h hd L L W1.heap.size W3) := q3
      have hb3 := q3.2.2.2.size
      have hb13 : W1.heap.size < W3.heap.size := (own_cap q3.2.1).2.2.1
      clear ho2 hg2 a2 q2 q3 hi hz0 hz1 hz2
      obtain ⟨i2, ki, kz0, kz1, kz2⟩ := info_parts info3
      go_wp2_with (at_make; refine wpList_make_full _ rfl _ _ 22 rfl w.heap.size 3 i2 (.int .i64 0) 1 Yba.underlying22 ki kz0 kz1 _ _ _ _ m rfl rfl (by omega) (by omega) (by rw [kz2]; omega) (by unfold maxLen; omega) (by omega) ?_)
      intro w4 ho4 hg4
      obtain ⟨a4, p4⟩ := stepC HQ3.out (by simpa using ho4) hg4
      have c4 := a4.cells.2.1
      have f4 := a4.free 1
      have HP4 : Hid (∃ D, P2 w m t h hd L W1.heap.size W3.heap.size D (w4.setCell ⟨w.heap.size, 1, none⟩ (.slice (some ⟨W3.heap.size, 0, none⟩) m m))) := ⟨_, p4⟩
      clear ho4 hg4 a4 p4 c2 f2 c3 hrun HX HQ3
      go_wp2_with fail
      go_loopw [21] (fun i wr => ∃ k : Nat, k ≤ m ∧ i = .int .i64 (k : Int) ∧ Hid (∃ D, P2 w m t h hd L W1.heap.size W3.heap.size D wr)) (fun i _ => m - (intOf i).toNat)
      case atStart => exact ⟨0, by omega, rfl, HP4⟩
      case round =>
        obtain ⟨k2, hk2, rfl, hp2⟩ := hrel
        clear HP4 c4 f4
        by_cases hlt2 : k2 < m
        ·
          obtain ⟨D, pD⟩ := hp2.out
          obtain ⟨y1, fy, z0, cy⟩ := pD.cells hlt2
          have hki : (k2 : Int) < (m : Int) := by omega
          by_cases hl0 : 0 < ld
          · obtain ⟨x, z, hx, hz⟩ := hdd.out (k2 % ld) (Nat.mod_lt _ hl0)
            subst hx
            obtain ⟨j, hj⟩ : ∃ j, j = k2 % ld := ⟨_, rfl⟩
            rw [← hj] at hz
            have hzr : wr.cell? (x.add j) = some (.int .i64 z) := by rw [pD.2.2.2.2.1.cell (World.block_lt_of_cell? _ _ hz)]; exact hz
            have hjl : (j : Int) < (ld : Int) := by have := Nat.mod_lt k2 hl0; omega
            have hjk : (k2 : Int) % (ld : Int) = (j : Int) := by rw [hj, Int.natCast_emod]
            have hl0i : (0 : Int) < (ld : Int) := by omega
            have R : Hid (∃ D, P2 w m t h hd L W1.heap.size W3.heap.size D (wr.setCell ⟨W3.heap.size, k2, none⟩ (.int .i64 z)).drew) := ⟨_, (pD.step z).drew⟩
            clear pD hz hj hp2
            go_wp2_with fail
            go_region
            all_goals (try go_wp2)
            go_roundw
            case rel => exact ⟨k2 + 1, by omega, by go_num, R⟩
            case measure => simp [intOf]; omega
          · have hl0i : (ld : Int) ≤ 0 := by omega
            have R : Hid (∃ D, P2 w m t h hd L W1.heap.size W3.heap.size D (wr.setCell ⟨W3.heap.size, k2, none⟩ (.int .i64 ((k2 : Int) + 1)))) := ⟨_, pD.step _⟩
            clear pD hp2
            go_wp2_with fail
            go_roundw
            case rel => exact ⟨k2 + 1, by omega, by go_num, R⟩
            case measure => simp [intOf]; omega
        · obtain ⟨W5, rfl⟩ : ∃ W : World, W = wr := ⟨_, rfl⟩
          obtain ⟨D, pD⟩ := hp2.out
          have HPD : Hid (P2 w m t h hd L W1.heap.size W3.heap.size D W5) := pD
          have hb5 := pD.2.2.2.2.1.size
          have hb35 : W3.heap.size < W5.heap.size := (own_cap pD.2.2.1).2.2.1
          clear pD hp2
          go_wp2_with (at_make; refine wpList_make_full _ rfl _ _ 22 rfl w.heap.size 3 i2 (.int .i64 0) 1 Yba.underlying22 ki kz0 kz1 _ _ _ _ m rfl rfl (by omega) (by omega) (by rw [kz2]; omega) (by unfold maxLen; omega) (by omega) ?_)
          intro w6 ho6 hg6
          obtain ⟨a6, W7, hrun7, hb57, p7⟩ := stepE HPD.out (by simpa using ho6) hg6
          have c6 := a6.cells.2.1
          have HP7 : Hid (P3 w m t h hd L D W1.heap.size W3.heap.size W5.heap.size W7.heap.size 0 (.slice none 0 0) [] W7) := p7
          clear ho6 hg6 a6 p7 HPD
          go_upto_if 105 with (fail)
          go_cut [24] from 105 to 121 (fun _ wr => Hid (∃ k vf F, P3 w m t h hd L D W1.heap.size W3.heap.size W5.heap.size W7.heap.size k vf F wr ∧ k ≤ 1024 ∧ (0 < k → 0 < m)))
          case first =>
            by_cases hm0 : 0 < m
            · have hm0i : (0 : Int) < (m : Int) := by omega
              have hmne : ¬ m = 0 := by omega
              go_wp2_with fail
              rw [show decide (0 < m) = true from decide_eq_true hm0]
              go_loopw [108] (fun i wr => ∃ k : Nat, k ≤ lf ∧ i = .int .i64 (k : Int) ∧ Hid (∃ vf F, P3 w m t h hd L D W1.heap.size W3.heap.size W5.heap.size W7.heap.size k vf F wr)) (fun i _ => lf - (intOf i).toNat)
              case atStart => exact ⟨0, by omega, rfl, _, _, HP7.out⟩
              case round =>
                obtain ⟨k3, hk3, rfl, hp3⟩ := hrel
                clear HP7 c6 hrun7
                by_cases hlt3 : k3 < lf
                · obtain ⟨vf, F, pF⟩ := hp3.out
                  obtain ⟨x, z, hx, hz, hz0, hz1⟩ := hff.out k3 hlt3
                  subst hx
                  obtain ⟨f, hf⟩ : ∃ f : Nat, f = (z % (m : Int)).toNat := ⟨_, rfl⟩
                  have hfm : f < m := by have := Int.emod_lt_of_pos z hm0i; have := Int.emod_nonneg z (by omega : (m : Int) ≠ 0); omega
                  have hfz : z % (m : Int) = (f : Int) := by have := Int.emod_nonneg z (by omega : (m : Int) ≠ 0); omega
                  have hzr : wr.cell? (x.add k3) = some (.int .u8 z) := by rw [pF.2.2.2.1.cell (World.block_lt_of_cell? _ _ hz)]; exact hz
                  have hki3 : (k3 : Int) < (lf : Int) := by omega
                  have e2 := pF.2.2.1.cells.2.2.1
                  have HPF : Hid (P3 w m t h hd L D W1.heap.size W3.heap.size W5.heap.size W7.heap.size k3 vf F wr) := pF
                  have hlr := pF.2.2.1.lt
                  clear pF hp3 hz hf
                  have hwr7 := HPF.out.2.2.2.2.2.2
                  have hzw : IntKind.i64.wrap z = z := by rw [IntKind.wrap_i64]; omega
                  have hzt : z.tmod (m : Int) = (f : Int) := by rw [Int.tmod_eq_emod_of_nonneg hz0]; exact hfz
                  go_wp2_with fail
                  go_region_law (refine step_append_own rfl (.tmp 113) (.tmp 118) 22 rfl W7.heap.size 3 i2 (.int .i64 0) 1 8 Yba.underlying22 ki kz0 kz1 kz2 rfl (by decide) vf k3 (fv F) (by simp [Act.eval]) (by exact HPF.out.2.1.alloc (.cells #[.int .i64 (f : Int)] 3)) ⟨wr.heap.size, 0, none⟩ 1 1 [.int .i64 (f : Int)] (by simp [Act.eval]) rfl (by exact news_one wr _) (by intro u hu; simp at hu; subst hu; rfl) (by unfold maxLen; omega) (by omega) (by simp; omega) ?_; intro v' w' ho' hg'; obtain ⟨⟨y2, f2⟩, R8⟩ := stepF HPF.out hfm (by omega) (by omega) (by omega) (by omega) ho' (undrew hg'); obtain ⟨gv, cv, hv', _, _⟩ := slice_of_own ho'; rw [hv'] at R8 ⊢; have HR8 : Hid (P3 w m t h hd L D W1.heap.size W3.heap.size W5.heap.size W7.heap.size (k3 + 1) (.slice (some ⟨gv, 0, none⟩) (k3 + 1) cv) (F ++ [f]) (w'.setCell ⟨w.heap.size, 2, none⟩ (.slice (some ⟨gv, 0, none⟩) (k3 + 1) cv))) := R8; clear R8 ho' hg' hv')
                  all_goals (try go_wp2)
                  all_goals
                    go_roundw
                    case rel => exact ⟨k3 + 1, by omega, by go_num, _, _, HR8.out⟩
                    case measure => simp [intOf]; omega
                · obtain ⟨vf, F, pF⟩ := hp3.out
                  have R : Hid (∃ k vf F, P3 w m t h hd L D W1.heap.size W3.heap.size W5.heap.size W7.heap.size k vf F wr ∧ k ≤ 1024 ∧ (0 < k → 0 < m)) := ⟨_, _, _, pF, by omega, fun _ => hm0⟩
                  clear pF hp3
                  go_wp2_with fail
                  go_meet
                  case rel => exact R
            · go_wp2_with fail
              go_meet
              case rel => exact ⟨_, _, _, HP7.out, by omega, by omega⟩
          case rest =>
            obtain ⟨k8, vf, F, p8, hk8, hkm⟩ := hcut.out
            obtain ⟨pv, cv8, rfl⟩ := own_slice p8.2.1
            have e2 := p8.2.2.1.cells.2.2.1
            have HP8 : Hid (P3 w m t h hd L D W1.heap.size W3.heap.size W5.heap.size W7.heap.size k8 (.slice pv k8 cv8) F wc) := p8
            have hb8 := p8.2.2.2.1.size
            have hb78 := p8.2.2.2.2.2.2
            have HKM : Hid (0 < k8 → 0 < m) := hkm
            obtain ⟨q, hq⟩ : ∃ q : Nat, q = 1 + (cl % 8).toNat := ⟨_, rfl⟩
            have hq1 : 1 ≤ q := by omega
            have hq8 : q ≤ 8 := by omega
            have hqc : 1 + cl % 8 = (q : Int) := by omega
            clear p8 hcut HP7 c6 hrun7 hkm hq
            go_wp2_with (at_make; refine wpList_make_full _ rfl _ _ 22 rfl w.heap.size 3 i2 (.int .i64 0) 1 Yba.underlying22 ki kz0 kz1 _ _ _ _ k8 rfl rfl (by omega) (by omega) (by rw [kz2]; omega) (by unfold maxLen; omega) (by omega) ?_)
            intro w9 ho9 hg9
            obtain ⟨e9, W10, hrun10, hb10, p10⟩ := stepG HP8.out (by omega) (by simpa using ho9) hg9
            have HP10 : Hid (P4 w m t h hd L D W1.heap.size W3.heap.size W5.heap.size W7.heap.size k8 (.slice pv k8 cv8) F wc.heap.size W10) := p10
            clear ho9 hg9 p10 HP8 ki kz0 kz1 kz2
            obtain ⟨i5, li, lz0, lz1, lz2⟩ := info_parts info5
            go_wp2_with (at_make; refine wpList_make_full _ rfl _ _ 23 rfl w.heap.size 5 i5 (.int .u8 0) 1 Yba.underlying23 li lz0 lz1 _ _ _ _ q rfl rfl (by omega) (by omega) (by rw [lz2]; omega) (by unfold maxLen; omega) (by omega) ?_)
            intro w11 ho11 hg11
            have cq : w11.cell? ⟨W10.heap.size, 0, none⟩ = some (.int .u8 0) := own_some (j := 0) (v := .int .u8 0) (made_own ho11) (by rw [List.getElem?_replicate, if_pos (by omega)]) (by omega)
            have fq : w11.frozen? ⟨W10.heap.size, 0, none⟩ = false := ho11.frozenAt 0
            have hq0 : (0 : Int) < (q : Int) := by omega
            have HP12 : Hid (P4 w m t h hd L D W1.heap.size W3.heap.size W5.heap.size W7.heap.size k8 (.slice pv k8 cv8) F wc.heap.size (w11.setCell ⟨W10.heap.size, 0, none⟩ (.int .u8 tg))) := stepH HP10.out hg11 _
            clear ho11 hg11 HP10 li lz0 lz1 lz2
            have HLL : Hid (L.length = m) := by have := HP12.out.1.1.1.1; show L.length = m; simpa using this
            have HDL : Hid (D.length = m) := by have := HP12.out.1.1.2.2.1.1; show D.length = m; simpa using this
            have HDN : Hid (∀ v ∈ D, Nm v) := HP12.out.1.2.2.2.2.1
            rcases Nat.eq_zero_or_pos k8 with hk0 | hk0
            · subst hk0
              have hP := new_last w.heap.size w.heap.size m _ _ pv (some ⟨W10.heap.size, 0, none⟩) cv8 q q t h hd _ _ _ HP12.out.1.2.2.1 HP12.out.1.1.2.1 HP12.out.1.1.2.2.1 (Nat.le_refl _) (by omega)
              go_wp2_with fail
              refine hP.mono ?_
              rintro e w13 ⟨rfl, g1, c1, g2, c2, ha, o1, o2, kp⟩
              have FIN := fin_last HP12.out (by omega) (by omega) ha o1 o2 kp
              have HFIN : Hid (Fin w m t h hd L D W5.heap.size g1 g2 (m + 1) c1 c2 m (.slice (some ⟨W10.heap.size, 0, none⟩) q q) (.slice pv 0 cv8) w13) := FIN
              obtain ⟨y0, y1, y2, y3, y4, y5⟩ := FIN.1.cells
              have x1 := FIN.2.1
              have x2 := FIN.2.2.1
              clear hP ha o1 o2 kp FIN
              go_wp2_with fail
              refine (same_some W10.heap.size q q _ (by omega) (by omega)).mono ?_
              rintro e w14 ⟨rfl, mq, rfl⟩
              go_wp2_with fail
              go_loopw [30] (fun i wr => ∃ k : Nat, k ≤ m ∧ i = .int .i64 (k : Int) ∧ Hid (Fin w m t h hd L D W5.heap.size g1 g2 (m + 1) c1 c2 m (.slice (some ⟨W10.heap.size, 0, none⟩) q q) (.slice pv 0 cv8) wr)) (fun i _ => m - (intOf i).toNat)
              case atStart => exact ⟨0, by omega, rfl, HFIN.out.drewN _⟩
              case round =>
                obtain ⟨k5, hk5, rfl, hp5⟩ := hrel
                clear HFIN y0 y1 y2 y3 y4 y5 x1 x2
                by_cases hlt5 : k5 < m
                · have hk5m : (k5 : Int) < (m : Int) := by omega
                  have hne : ((k5 : Int) == (m : Int)) = false := by simp; omega
                  obtain ⟨fa, _, _, fd, fe, fb⟩ := hp5.out
                  obtain ⟨y0, y1, _, _, _, _⟩ := fa.cells
                  obtain ⟨u1, u2⟩ := fd k5 hlt5 (by omega)
                  obtain ⟨u3, u4⟩ := fe k5 hlt5
                  have hLl : L.length = m := HLL.out
                  have hDl : D.length = m := HDL.out
                  obtain ⟨lv, hlv⟩ : ∃ lv, lv = L[k5] := ⟨_, rfl⟩
                  have hlm : Sl lv := by rw [hlv]; exact HL.out _ (List.getElem_mem _)
                  obtain ⟨z5, hz5⟩ : ∃ z5 : Int, D[k5] = .int .i64 z5 := HDN.out (D[k5]'(by omega)) (List.getElem_mem (by omega))
                  rw [List.getElem?_eq_getElem (by omega)] at u1 u2 u3 u4
                  rw [← hlv] at u1 u3
                  rw [hz5] at u2 u4
                  have hi1 : (k5 : Int) < (((m + 1) : Nat) : Int) := by omega
                  clear fa fd fe fb hlv hz5 hLl hDl
                  rcases hlm with rfl | ⟨g5, n5, c5, rfl, hn5, hn6⟩
                  · go_wp2_with fail
                    go_quiet ((go_at_call 6; refine Calls.quiet_of (same_nil _)))
                    go_wp2_with fail
                    go_roundw
                    case rel => exact ⟨k5 + 1, by omega, by go_num, hp5.out.drewN _⟩
                    case measure => simp [intOf]; omega
                  · go_wp2_with fail
                    go_quiet ((go_at_call 6; refine Calls.quiet_of (same_some g5 n5 c5 _ hn5 hn6)))
                    go_wp2_with fail
                    go_roundw
                    case rel => exact ⟨k5 + 1, by omega, by go_num, hp5.out.drewN _⟩
                    case measure => simp [intOf]; omega
                · have hb5 := hp5.out.2.2.2.2.2
                  have HB5 : Hid (Below w.heap.size w wr) := hb5
                  clear hb5 hp5
                  go_wp2_with fail
                  go_ret
                  exact ⟨rfl, HB5.out⟩
            · obtain ⟨k9, rfl⟩ : ∃ k9, k8 = k9 + 1 := ⟨k8 - 1, by omega⟩
              have hm0 := HKM.out hk0
              obtain ⟨gf, cg, hvf, hBg, _⟩ := slice_of_own HP12.out.1.2.1
              simp only [Value.slice.injEq, true_and] at hvf
              obtain ⟨rfl, rfl⟩ := hvf
              have hFl : F.length = k9 + 1 := by have := HP12.out.1.2.1.1; simpa [fv] using this
              obtain ⟨f, hf⟩ : ∃ f, f = F[k9] := ⟨_, rfl⟩
              have hfm : f < m := by rw [hf]; exact HP12.out.1.2.2.2.2.2.1 _ (List.getElem_mem _)
              have hfk : (fv F)[k9]? = some (.int .i64 (f : Int)) := by simp [fv, hFl, hf]
              have hP := new_taken w.heap.size w.heap.size m k9 f W1.heap.size m W3.heap.size m gf cv8 (some ⟨W10.heap.size, 0, none⟩) q q t h hd L D (fv F) _ HP12.out.1.2.2.1 HP12.out.1.1.2.1 HP12.out.1.1.2.2.1 (own_mono HP12.out.1.2.1 (by omega)) hfk hfm (by omega) (by omega) (by omega)
              have HFL : Hid (F.length = k9 + 1) := hFl
              have HFK : Hid ((fv F)[k9]? = some (.int .i64 (f : Int))) := hfk
              clear hf hFl hfk
              go_wp2_with fail
              refine hP.mono ?_
              rintro e w13 ⟨rfl, ha, o1, o2, kp⟩
              obtain ⟨FIN, oh⟩ := fin_taken HP12.out (by omega) (by omega) (by omega) hfm ha o1 o2 kp
              have HFIN : Hid (Fin w m t h hd L D W5.heap.size W1.heap.size W3.heap.size m m m f (.slice (some ⟨W10.heap.size, 0, none⟩) q q) (.slice (some ⟨gf, 0, none⟩) k9 cv8) w13) := FIN
              have HFR : Hid (∀ i, i < k9 + 1 → w13.cell? ⟨gf, i, none⟩ = (fv F)[i]?) := fun i hi => (kp.own HP12.out.1.2.1 (fun g hg qq => by simp [Value.ownBlock] at hg; omega)).cellAt i (by omega)
              have HOH : Hid (∀ i, i < k9 + 1 → w13.cell? ⟨wc.heap.size, i, none⟩ = (fv F)[i]?) := fun i hi => oh.cellAt i (by omega)
              have xo : w13.cell? ⟨wc.heap.size, k9, none⟩ = some (.int .i64 (f : Int)) := by rw [HOH.out k9 (by omega)]; exact HFK.out
              obtain ⟨y0, y1, y2, y3, y4, y5⟩ := FIN.1.cells
              have x1 := FIN.2.1
              have x2 := FIN.2.2.1
              have hfi : (f : Int) < (m : Int) := by omega
              clear hP ha o1 o2 kp FIN oh HFK
              go_wp2_with fail
              go_loopw [29] (fun i wr => ∃ k4 mm : Nat, k4 ≤ k9 ∧ i = .int .i64 (k4 : Int) ∧ wr = w13.drewN mm) (fun i _ => k9 - (intOf i).toNat)
              case atStart => exact ⟨0, 0, by omega, rfl, rfl⟩
              case round =>
                obtain ⟨k4, mm, hk4, rfl, rfl⟩ := hrel
                by_cases hlt4 : k4 < k9
                · have r1 := HFR.out k4 (by omega)
                  have r2 := HOH.out k4 (by omega)
                  obtain ⟨f4, hf4⟩ : ∃ f4 : Nat, (fv F)[k4]? = some (.int .i64 (f4 : Int)) := ⟨F[k4]'(by have := HFL.out; omega), by have := HFL.out; simp [fv, show k4 < F.length by omega]⟩
                  rw [hf4] at r1 r2
                  have hk4i : (k4 : Int) < (k9 : Int) := by omega
                  clear hf4 xo x1 x2
                  go_wp2_with fail
                  go_quiet (fail)
                  go_wp2_with fail
                  go_roundw
                  case rel => exact ⟨k4 + 1, mm + nq, by omega, by go_num, rfl⟩
                  case measure => simp [intOf]; omega
                · go_wp2_with fail
                  refine (same_some W10.heap.size q q _ (by omega) (by omega)).mono ?_
                  rintro e w14 ⟨rfl, mq, rfl⟩
                  go_wp2_with fail
                  go_loopw [30] (fun i wr => ∃ k : Nat, k ≤ m ∧ i = .int .i64 (k : Int) ∧ Hid (Fin w m t h hd L D W5.heap.size W1.heap.size W3.heap.size m m m f (.slice (some ⟨W10.heap.size, 0, none⟩) q q) (.slice (some ⟨gf, 0, none⟩) k9 cv8) wr)) (fun i _ => m - (intOf i).toNat)
                  case atStart => exact ⟨0, by omega, rfl, HFIN.out.drewN _⟩
                  case round =>
                    obtain ⟨k5, hk5, rfl, hp5⟩ := hrel
                    clear HFIN y0 y1 y2 y3 y4 y5 x1 x2
                    by_cases hlt5 : k5 < m
                    · have hk5m : (k5 : Int) < (m : Int) := by omega
                      by_cases hkc : k5 = f
                      · have heq : ((k5 : Int) == (f : Int)) = true := by simp; omega
                        go_wp2_with fail
                        go_roundw
                        case rel => exact ⟨k5 + 1, by omega, by go_num, hp5⟩
                        case measure => simp [intOf]; omega
                      ·
                        have hne : ((k5 : Int) == (f : Int)) = false := by simp; omega
                        obtain ⟨fa, _, _, fd, fe, fb⟩ := hp5.out
                        obtain ⟨y0, y1, _, _, _, _⟩ := fa.cells
                        obtain ⟨u1, u2⟩ := fd k5 hlt5 (by omega)
                        obtain ⟨u3, u4⟩ := fe k5 hlt5
                        have hLl : L.length = m := HLL.out
                        have hDl : D.length = m := HDL.out
                        obtain ⟨lv, hlv⟩ : ∃ lv, lv = L[k5] := ⟨_, rfl⟩
                        have hlm : Sl lv := by rw [hlv]; exact HL.out _ (List.getElem_mem _)
                        obtain ⟨z5, hz5⟩ : ∃ z5 : Int, D[k5] = .int .i64 z5 := HDN.out (D[k5]'(by omega)) (List.getElem_mem (by omega))
                        rw [List.getElem?_eq_getElem (by omega)] at u1 u2 u3 u4
                        rw [← hlv] at u1 u3
                        rw [hz5] at u2 u4
                        have hi1 : (k5 : Int) < ((m : Nat) : Int) := by omega
                        clear fa fd fe fb hlv hz5 hLl hDl
                        rcases hlm with rfl | ⟨g5, n5, c5, rfl, hn5, hn6⟩
                        · go_wp2_with fail
                          go_quiet ((go_at_call 6; refine Calls.quiet_of (same_nil _)))
                          go_wp2_with fail
                          go_roundw
                          case rel => exact ⟨k5 + 1, by omega, by go_num, hp5.out.drewN _⟩
                          case measure => simp [intOf]; omega
                        · go_wp2_with fail
                          go_quiet ((go_at_call 6; refine Calls.quiet_of (same_some g5 n5 c5 _ hn5 hn6)))
                          go_wp2_with fail
                          go_roundw
                          case rel => exact ⟨k5 + 1, by omega, by go_num, hp5.out.drewN _⟩
                          case measure => simp [intOf]; omega
                    · have hb5 := hp5.out.2.2.2.2.2
                      have HB5 : Hid (Below w.heap.size w wr) := hb5
                      clear hb5 hp5
                      go_wp2_with fail
                      go_ret
                      exact ⟨rfl, HB5.out⟩

end Go.Proofs.Ybulkwow
