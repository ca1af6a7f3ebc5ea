/- 'Rows.LawS1136AModelSaid', proved. The frame is the shell's, written by program. -/
import Derived.Test.YbulkwmsModel
import Derived.WalkKit
import Derived.ProofKit
import Derived.OpenShut
import Derived.ShutString
import Derived.ChangeOld
import Derived.Below
namespace Go.Proofs.Ybulkwms.lawS1136AModel
open Go.ChangeShapes Go.WideShapes Go.ChangeAt Go.RowKit
open Go.ChangeMaps (open_string shut_string)
set_option linter.unusedVariables false

theorem own : ownKnob Yba.prog.godebug = none := by kernel_rfl
theorem laidOut : laidOutB Yba.prog = true := by kernel_rfl

/-- WHAT THE WALK IS TOLD OF A SLICE OF INTEGERS THAT CAME IN: it is nil; or it leads to a row of 'cap' cells, the numbers 'zs' (the first 'len' are its elements, the rest its spare room), each fitting its kind. -/
def IsRow (k : IntKind) (w : World) (a : Option Addr) (len cap : Nat) (zs : List Int) : Prop :=
  (a = none ∧ len = 0 ∧ cap = 0 ∧ zs = []) ∨
  ∃ x, a = some x ∧ len ≤ cap ∧ cap ≤ maxLen ∧ zs.length = cap ∧ (∀ i, i < zs.length → w.cell? (x.add i) = some (.int k (zs.getD i 0))) ∧ ∀ n ∈ zs, (Lit.int k n).wf = true

theorem of_row {w : World} {x : Addr} {len cap : Nat} {zs : List Int} (hl : len ≤ cap) (hz : zs.length = cap) (hc : ∀ i, i < zs.length → w.cell? (x.add i) = some (.int .u8 (zs.getD i 0))) (hw : ∀ n ∈ zs, (Lit.int .u8 n).wf = true) :
    ∃ bs : List UInt8, bs.length = len ∧ Hs w (some x) len cap bs := by
  have hlen : ((zs.take len).map fun z => UInt8.ofNat z.toNat).length = len := by simp; omega
  refine ⟨(zs.take len).map fun z => UInt8.ofNat z.toNat, hlen, hlen, hl, ?_⟩
  by_cases h0 : len = 0
  · exact .inl h0
  · obtain ⟨g, o, sp⟩ := x
    have hsp : sp = none := by simpa [Addr.add] using World.cell?_spot (hc 0 (by omega))
    subst hsp
    refine .inr ⟨g, o, rfl, fun j hj => ?_⟩
    have hj' : j < len := by rw [hlen] at hj; exact hj
    have h := hc j (by omega)
    rw [addr_add] at h
    rw [h]
    have hb := bounds_u8 (hw zs[j] (List.getElem_mem (by omega)))
    have e : zs.getD j 0 = zs[j] := by simp [show j < zs.length by omega]
    rw [e]
    simp only [List.getElem_map, List.getElem_take, UInt8.toNat_ofNat']
    congr 2
    omega

set_option maxHeartbeats 400000 in
theorem walk_long (a0 : Option Addr) (len0 cap0 : Nat) (w : World) (h : 1024 < len0) (hm : len0 ≤ maxLen) :
    Calls Yba.prog 3 #[.slice a0 len0 cap0] w fun e w' => e = .returned (.bool true) ∧ Below w.heap.size w w' := by
  unfold maxLen at hm
  go_enter Yba.func3, Yba.ntmps3
  go_wp2
  go_ret
  exact ⟨rfl, Below.refl _ _⟩

theorem walk_hs (p : Option Addr) (c : Nat) (bs : List UInt8) (w : World) (h : Hs w p bs.length c bs) (hp : p = none → bs.length = 0 ∧ c = 0) (hn : bs.length ≤ 1024) :
    Calls Yba.prog 3 #[.slice p bs.length c] w fun e w' => e = .returned (.bool true) ∧ Below w.heap.size w w' := by
  by_cases h8 : bs.length < 8
  · exact model_A p c bs w h hp hn h8
  by_cases h4 : (bs.drop 8).length < 4
  · exact model_B p c bs _ w h hp hn (by omega) rfl h4
  obtain ⟨b2, e2⟩ : ∃ b2, b2 = (bs.drop 8).drop 4 := ⟨_, rfl⟩
  by_cases hm : (Lib.uvarintDec b2).2 ≤ 0
  · exact model_C p c bs _ b2 w h hp hn (by omega) rfl (by omega) e2 _ _ rfl hm
  obtain ⟨m, em⟩ : ∃ m : Nat, (Lib.uvarintDec b2).2 = (m : Int) := ⟨(Lib.uvarintDec b2).2.toNat, by omega⟩
  have hv : Lib.uvarintDec b2 = ((Lib.uvarintDec b2).1, (m : Int)) := by rw [← em]
  by_cases h3 : (b2.drop m).length = 0
  · exact model_D p c bs _ b2 w h hp hn (by omega) rfl (by omega) e2 _ m hv (by omega) (List.eq_nil_of_length_eq_zero h3)
  obtain ⟨b3, e3⟩ : ∃ b3, b3 = b2.drop m := ⟨_, rfl⟩
  rw [← e3] at h3
  by_cases hm2 : (Lib.varintDec b3).2 ≤ 0
  · exact model_E p c bs _ b2 b3 w h hp hn (by omega) rfl (by omega) e2 _ m hv (by omega) e3 (by omega) _ _ rfl hm2
  obtain ⟨m2, em2⟩ : ∃ m2 : Nat, (Lib.varintDec b3).2 = (m2 : Int) := ⟨(Lib.varintDec b3).2.toNat, by omega⟩
  have hk : Lib.varintDec b3 = ((Lib.varintDec b3).1, (m2 : Int)) := by rw [← em2]
  exact model_F p c bs _ b2 b3 _ w h hp hn (by omega) rfl (by omega) e2 _ m hv (by omega) e3 (by omega) _ m2 hk (by omega) rfl

/-! ### STEP 1: THE WALK: the Go text returns true, AND WRITES NOTHING THAT WAS THERE: 'Below w.heap.size w w'' (Derived/Below.lean: '.refl', '.alloc', '.drew', '.setCell' at a new block, '.trans'). Open each 'IsRow' by 'rcases' AHEAD of 'go_enter'; part every test ahead of the walk. -/
theorem walk (a0 : Option Addr) (len0 cap0 : Nat) (z0 : List Int) (w : World) (w0 : IsRow .u8 w a0 len0 cap0 z0) :
    Calls Yba.prog 3 #[.slice a0 len0 cap0] w fun e w' => e = .returned (.bool true) ∧ Below w.heap.size w w' := by
  rcases w0 with ⟨rfl, rfl, rfl, rfl⟩ | ⟨x, rfl, hl, hm, hz, hc, hw⟩
  · exact walk_hs none 0 [] w (Hs.nil w) (fun _ => ⟨rfl, rfl⟩) (by simp)
  · by_cases hb : len0 ≤ 1024
    · obtain ⟨bs, rfl, hs⟩ := of_row hl hz hc hw
      exact walk_hs (some x) cap0 bs w hs (fun h => by cases h) hb
    · exact walk_long _ len0 cap0 w (by omega) (by omega)

/-! ### THE ROW's STEP: WRITTEN OUT: LEAVE IT -/
set_option maxRecDepth 100000 in
theorem lifted (os : Os) (started : os.Started) (H : Type) (enc : TypeId × Value → H) :
    ReturnsInHanded {} Yba.checked os 3 .any (Rows.lawS1136AModelSpec.pre6 enc Yba.prog Yba.f3 Rows.lawS1136AModelRow.domain false) (Rows.lawS1136AModelSpec.post enc Yba.prog Yba.f3 false true false false) := by
  refine returnsInHanded_of_change (C := Yba.checked) own started (by kernel_rfl) Yba.func3
    (ChangeSpec.witness6 (enc := enc) (C := Yba.checked) false ⟨#[], #[.slice none 0 0], []⟩ 8 (by kernel_rfl) (by kernel_rfl) (by kernel_rfl) (by kernel_rfl)) ?_
  intro W base args ds gs before hval0 hW hcnd _
  have hval : ∀ (j : Nat) t v, Yba.f3.params[j]? = some t → args[j]? = some v → Value.okWide Yba.prog W .any base t v := hval0
  have hW' := hW
  obtain ⟨p, q, hA0, hV, rfl, hfz, hnd⟩ := hW
  have hA : DataW.TrodAll enc Yba.prog W 0 (fun _ => true) true Yba.f3.params.toList args.toList ds p := hA0
  rw [Yba.params3] at hA hval
  obtain ⟨v0, vs0, d0, ds0, p0, q0, hargs, rfl, rfl, h0, r0⟩ := trodAll_cons hA
  obtain ⟨rfl, rfl, rfl⟩ := trodAll_nil r0
  obtain rfl : args = #[v0] := by cases args; simp_all
  obtain ⟨rfl, rfl⟩ := trodVars_none hV
  obtain ⟨a0, len0, cap0, rfl⟩ := okWide_slice Yba.underlying22 (hval 0 22 v0 rfl rfl)
  have k0 := h0
  have lt0 : ∀ x ∈ p0, x.block < W.heap.size := by obtain ⟨m, hm⟩ := k0; exact DataW.trod_lt m _ _ _ hm
  obtain ⟨z0, w0⟩ : ∃ zs, IsRow .u8 W a0 len0 cap0 zs := by
    obtain ⟨fuel, hf⟩ := h0
    rcases open_ints Yba.underlying22 Yba.underlying5 (by kernel_rfl) hf with ⟨hcs, _⟩ | ⟨x, l, c, zs, hcs, _, hl, hm, hz, _, hcell, hwz⟩
    · simp [Value.cells] at hcs
      obtain ⟨rfl, rfl, rfl⟩ := hcs
      exact ⟨[], .inl ⟨rfl, rfl, rfl, rfl⟩⟩
    · simp [Value.cells] at hcs
      obtain ⟨rfl, rfl, rfl⟩ := hcs
      exact ⟨zs, .inr ⟨_, rfl, hl, hm, by simpa using hz, hcell, hwz⟩⟩
  clear hA0 hval0
  refine (walk a0 len0 cap0 z0 W w0).mono fun e W' ⟨he, bel⟩ => ?_
  subst he
  exact ⟨_, rfl, _, _, _, [], _, [], hW', trodAll_mk1 (shut_bool Yba.underlying4 _), (trodAll_cons_mk (Below.trod laidOut (by kernel_rfl) (of_decide_eq_true (by kernel_rfl)) k0 bel lt0) trodAll_mk0), rfl, bel.frame _, fun h => by cases h⟩

theorem over : Rows.lawS1136AModelRow.holds Yba.pinned (OpenSpec.ofChange Rows.lawS1136AModelSpec) :=
  OpenClaim.holds_of_wide 3 Yba.f3 rfl rfl rfl rfl rfl rfl rfl ⟨rfl, rfl, rfl, rfl, rfl⟩ rfl rfl rfl rfl rfl (by kernel_rfl) Yba.func3 (by kernel_rfl)
    (of_decide_eq_true (by kernel_rfl)) (by unfold Func.isWrapper; first | (rw [if_pos (by decide +kernel)]; kernel_rfl) | (rw [if_neg (by decide +kernel)]; exact ⟨rfl, rfl⟩))
    (fun os started H enc _ => lifted os started H enc)

/-- ████ THE STATEMENT ████ -/
theorem proved : Rows.LawS1136AModelSaid := over
end Go.Proofs.Ybulkwms.lawS1136AModel
namespace Go.Proofs.Ybulkwms
theorem lawS1136AModel_holds : Rows.LawS1136AModelSaid := lawS1136AModel.proved
end Go.Proofs.Ybulkwms
