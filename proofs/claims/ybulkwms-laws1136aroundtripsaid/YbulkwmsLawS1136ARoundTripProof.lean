/- 'Rows.LawS1136ARoundTripSaid', proved. The frame is the shell's, written by program. -/
import Derived.Test.YbulkwmsRound
import Derived.WalkKit
import Derived.ProofKit
import Derived.OpenShut
import Derived.ShutString
import Derived.ChangeOld
import Derived.Below
namespace Go.Proofs.Ybulkwms.lawS1136ARoundTrip
open Go.ChangeShapes Go.WideShapes Go.ChangeAt Go.RowKit
open Go.ChangeMaps (open_string shut_string)
set_option linter.unusedVariables false

theorem own : ownKnob Yba.prog.godebug = none := by kernel_rfl
theorem laidOut : laidOutB Yba.prog = true := by kernel_rfl

/-- WHAT THE WALK IS TOLD OF A SLICE OF INTEGERS THAT CAME IN: it is nil; or it leads to a row of 'cap' cells, the numbers 'zs' (the first 'len' are its elements, the rest its spare room), each fitting its kind. -/
def IsRow (k : IntKind) (w : World) (a : Option Addr) (len cap : Nat) (zs : List Int) : Prop :=
  (a = none ∧ len = 0 ∧ cap = 0 ∧ zs = []) ∨
  ∃ x, a = some x ∧ len ≤ cap ∧ cap ≤ maxLen ∧ zs.length = cap ∧ (∀ i, i < zs.length → w.cell? (x.add i) = some (.int k (zs.getD i 0))) ∧ ∀ n ∈ zs, (Lit.int k n).wf = true

theorem of_row {w : World} {x : Addr} {len cap : Nat} {zs : List Int} (hl : len ≤ cap) (hz : zs.length = cap) (hc : ∀ i, i < zs.length → w.cell? (x.add i) = some (.int .u8 (zs.getD i 0))) (hw : ∀ n ∈ zs, (Lit.int .u8 n).wf = true) :
    ∃ bs : List UInt8, bs.length = len ∧ Hs w (some x) len cap bs := by
  have hlen : ((zs.take len).map fun z => UInt8.ofNat z.toNat).length = len := by simp; omega
  refine ⟨(zs.take len).map fun z => UInt8.ofNat z.toNat, hlen, hlen, hl, ?_⟩
  by_cases h0 : len = 0
  · exact .inl h0
  · obtain ⟨g, o, sp⟩ := x
    have hsp : sp = none := by simpa [Addr.add] using World.cell?_spot (hc 0 (by omega))
    subst hsp
    refine .inr ⟨g, o, rfl, fun j hj => ?_⟩
    have hj' : j < len := by rw [hlen] at hj; exact hj
    have h := hc j (by omega)
    rw [addr_add] at h
    rw [h]
    have hb := bounds_u8 (hw zs[j] (List.getElem_mem (by omega)))
    have e : zs.getD j 0 = zs[j] := by simp [show j < zs.length by omega]
    rw [e]
    simp only [List.getElem_map, List.getElem_take, UInt8.toNat_ofNat']
    congr 2
    omega

set_option maxHeartbeats 400000 in
theorem walk_long (a0 a1 a2 a3 : Int) (a4 : Bool) (a5 : Option Addr) (len5 cap5 : Nat) (w : World) (h : 1024 < len5) (hm : len5 ≤ maxLen) :
    Calls Yba.prog 4 #[.int .u64 a0, .int .i32 a1, .int .i32 a2, .int .i64 a3, .bool a4, .slice a5 len5 cap5] w fun e w' => e = .returned (.bool true) ∧ Below w.heap.size w w' := by
  unfold maxLen at hm
  go_enter Yba.func4, Yba.ntmps4
  go_wp2
  go_ret
  exact ⟨rfl, Below.refl _ _⟩

/-- 'uint32(x)' of an int32, and back. -/
theorem there_back {x : Int} (h : (Lit.int .i32 x).wf = true) : ∃ X : Nat, X < 4294967296 ∧ IntKind.u32.wrap x = (X : Int) ∧ wrap32 (X : Int) = x := by
  have hb := bounds_i32 h
  refine ⟨(x % 4294967296).toNat, by omega, ?_, ?_⟩
  · rw [IntKind.wrap_u32]; omega
  · unfold wrap32; omega

theorem walk_hs (a0 a1 a2 a3 : Int) (a4 : Bool) (p : Option Addr) (len cap : Nat) (tl : List UInt8) (w : World) (w0 : (Lit.int .u64 a0).wf = true) (w1 : (Lit.int .i32 a1).wf = true) (w2 : (Lit.int .i32 a2).wf = true) (w3 : (Lit.int .i64 a3).wf = true)
    (ht : Hs w p len cap tl) (hp : p = none → len = 0 ∧ cap = 0) (hlen : len ≤ 1024) :
    Calls Yba.prog 4 #[.int .u64 a0, .int .i32 a1, .int .i32 a2, .int .i64 a3, .bool a4, .slice p len cap] w fun e w' => e = .returned (.bool true) ∧ Below w.heap.size w w' := by
  have b0 := bounds_u64 w0
  have b3 := bounds_i64 w3
  obtain ⟨C, hC, eC, fC⟩ := there_back w1
  obtain ⟨N, hN, eN, fN⟩ := there_back w2
  obtain ⟨H, rfl⟩ : ∃ H : Nat, a0 = (H : Int) := ⟨a0.toNat, by omega⟩
  cases a4
  · exact round_no H C N a1 a2 a3 p len cap w hlen (by omega) hC hN eC eN fC fN
  · exact round_yes H C N a1 a2 a3 p len cap tl w hlen (by omega) hC hN eC eN fC fN b3.1 b3.2 ht hp

/-! ### STEP 1: THE WALK: the Go text returns true, AND WRITES NOTHING THAT WAS THERE: 'Below w.heap.size w w'' (Derived/Below.lean: '.refl', '.alloc', '.drew', '.setCell' at a new block, '.trans'). Open each 'IsRow' by 'rcases' AHEAD of 'go_enter'; part every test ahead of the walk. -/
theorem walk (a0 : Int) (a1 : Int) (a2 : Int) (a3 : Int) (a4 : Bool) (a5 : Option Addr) (len5 cap5 : Nat) (z5 : List Int) (w : World) (w0 : (Lit.int .u64 a0).wf = true) (w1 : (Lit.int .i32 a1).wf = true) (w2 : (Lit.int .i32 a2).wf = true) (w3 : (Lit.int .i64 a3).wf = true) (w5 : IsRow .u8 w a5 len5 cap5 z5) :
    Calls Yba.prog 4 #[.int .u64 a0, .int .i32 a1, .int .i32 a2, .int .i64 a3, .bool a4, .slice a5 len5 cap5] w fun e w' => e = .returned (.bool true) ∧ Below w.heap.size w w' := by
  rcases w5 with ⟨rfl, rfl, rfl, rfl⟩ | ⟨x, rfl, hl, hm, hz, hc, hw⟩
  · exact walk_hs a0 a1 a2 a3 a4 none 0 0 [] w w0 w1 w2 w3 (Hs.nil w) (fun _ => ⟨rfl, rfl⟩) (by omega)
  · by_cases hb : len5 ≤ 1024
    · obtain ⟨bs, _, hs⟩ := of_row hl hz hc hw
      exact walk_hs a0 a1 a2 a3 a4 (some x) len5 cap5 bs w w0 w1 w2 w3 hs (fun h => by cases h) hb
    · exact walk_long a0 a1 a2 a3 a4 _ len5 cap5 w (by omega) (by omega)

/-! ### THE ROW's STEP: WRITTEN OUT: LEAVE IT -/
set_option maxRecDepth 100000 in
theorem lifted (os : Os) (started : os.Started) (H : Type) (enc : TypeId × Value → H) :
    ReturnsInHanded {} Yba.checked os 4 .any (Rows.lawS1136ARoundTripSpec.pre6 enc Yba.prog Yba.f4 Rows.lawS1136ARoundTripRow.domain false) (Rows.lawS1136ARoundTripSpec.post enc Yba.prog Yba.f4 false true false false) := by
  refine returnsInHanded_of_change (C := Yba.checked) own started (by kernel_rfl) Yba.func4
    (ChangeSpec.witness6 (enc := enc) (C := Yba.checked) false ⟨#[], #[.int .u64 0, .int .i32 0, .int .i32 0, .int .i64 0, .bool false, .slice none 0 0], []⟩ 8 (by kernel_rfl) (by kernel_rfl) (by kernel_rfl) (by kernel_rfl)) ?_
  intro W base args ds gs before hval0 hW hcnd _
  have hval : ∀ (j : Nat) t v, Yba.f4.params[j]? = some t → args[j]? = some v → Value.okWide Yba.prog W .any base t v := hval0
  have hW' := hW
  obtain ⟨p, q, hA0, hV, rfl, hfz, hnd⟩ := hW
  have hA : DataW.TrodAll enc Yba.prog W 0 (fun _ => true) true Yba.f4.params.toList args.toList ds p := hA0
  rw [Yba.params4] at hA hval
  obtain ⟨v0, vs0, d0, ds0, p0, q0, hargs, rfl, rfl, h0, r0⟩ := trodAll_cons hA
  obtain ⟨v1, vs1, d1, ds1, p1, q1, rfl, rfl, rfl, h1, r1⟩ := trodAll_cons r0
  obtain ⟨v2, vs2, d2, ds2, p2, q2, rfl, rfl, rfl, h2, r2⟩ := trodAll_cons r1
  obtain ⟨v3, vs3, d3, ds3, p3, q3, rfl, rfl, rfl, h3, r3⟩ := trodAll_cons r2
  obtain ⟨v4, vs4, d4, ds4, p4, q4, rfl, rfl, rfl, h4, r4⟩ := trodAll_cons r3
  obtain ⟨v5, vs5, d5, ds5, p5, q5, rfl, rfl, rfl, h5, r5⟩ := trodAll_cons r4
  obtain ⟨rfl, rfl, rfl⟩ := trodAll_nil r5
  obtain rfl : args = #[v0, v1, v2, v3, v4, v5] := by cases args; simp_all
  obtain ⟨rfl, rfl⟩ := trodVars_none hV
  obtain ⟨a0, rfl, rfl, rfl, w0⟩ := open_int Yba.underlying25 (hval 0 25 v0 rfl rfl) h0
  obtain ⟨a1, rfl, rfl, rfl, w1⟩ := open_int Yba.underlying21 (hval 1 21 v1 rfl rfl) h1
  obtain ⟨a2, rfl, rfl, rfl, w2⟩ := open_int Yba.underlying21 (hval 2 21 v2 rfl rfl) h2
  obtain ⟨a3, rfl, rfl, rfl, w3⟩ := open_int Yba.underlying2 (hval 3 2 v3 rfl rfl) h3
  obtain ⟨a4, rfl, rfl, rfl⟩ := open_bool Yba.underlying4 (hval 4 4 v4 rfl rfl) h4
  obtain ⟨a5, len5, cap5, rfl⟩ := okWide_slice Yba.underlying22 (hval 5 22 v5 rfl rfl)
  have k5 := h5
  have lt5 : ∀ x ∈ p5, x.block < W.heap.size := by obtain ⟨m, hm⟩ := k5; exact DataW.trod_lt m _ _ _ hm
  obtain ⟨z5, w5⟩ : ∃ zs, IsRow .u8 W a5 len5 cap5 zs := by
    obtain ⟨fuel, hf⟩ := h5
    rcases open_ints Yba.underlying22 Yba.underlying5 (by kernel_rfl) hf with ⟨hcs, _⟩ | ⟨x, l, c, zs, hcs, _, hl, hm, hz, _, hcell, hwz⟩
    · simp [Value.cells] at hcs
      obtain ⟨rfl, rfl, rfl⟩ := hcs
      exact ⟨[], .inl ⟨rfl, rfl, rfl, rfl⟩⟩
    · simp [Value.cells] at hcs
      obtain ⟨rfl, rfl, rfl⟩ := hcs
      exact ⟨zs, .inr ⟨_, rfl, hl, hm, by simpa using hz, hcell, hwz⟩⟩
  clear hA0 hval0
  refine (walk a0 a1 a2 a3 a4 a5 len5 cap5 z5 W w0 w1 w2 w3 w5).mono fun e W' ⟨he, bel⟩ => ?_
  subst he
  exact ⟨_, rfl, _, _, _, [], _, [], hW', trodAll_mk1 (shut_bool Yba.underlying4 _), (trodAll_cons_mk (shut_int Yba.underlying25 w0) (trodAll_cons_mk (shut_int Yba.underlying21 w1) (trodAll_cons_mk (shut_int Yba.underlying21 w2) (trodAll_cons_mk (shut_int Yba.underlying2 w3) (trodAll_cons_mk (shut_bool Yba.underlying4 _) (trodAll_cons_mk (Below.trod laidOut (by kernel_rfl) (of_decide_eq_true (by kernel_rfl)) k5 bel lt5) trodAll_mk0)))))), rfl, bel.frame _, fun h => by cases h⟩

theorem over : Rows.lawS1136ARoundTripRow.holds Yba.pinned (OpenSpec.ofChange Rows.lawS1136ARoundTripSpec) :=
  OpenClaim.holds_of_wide 4 Yba.f4 rfl rfl rfl rfl rfl rfl rfl ⟨rfl, rfl, rfl, rfl, rfl⟩ rfl rfl rfl rfl rfl (by kernel_rfl) Yba.func4 (by kernel_rfl)
    (of_decide_eq_true (by kernel_rfl)) (by unfold Func.isWrapper; first | (rw [if_pos (by decide +kernel)]; kernel_rfl) | (rw [if_neg (by decide +kernel)]; exact ⟨rfl, rfl⟩))
    (fun os started H enc _ => lifted os started H enc)

/-- ████ THE STATEMENT ████ -/
theorem proved : Rows.LawS1136ARoundTripSaid := over
end Go.Proofs.Ybulkwms.lawS1136ARoundTrip
namespace Go.Proofs.Ybulkwms
theorem lawS1136ARoundTrip_holds : Rows.LawS1136ARoundTripSaid := lawS1136ARoundTrip.proved
end Go.Proofs.Ybulkwms
