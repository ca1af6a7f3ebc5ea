/-
  No cell of these rows narrows 'for every input' (looked for: loops, veiled, ifaces, maps, wideKeys, modest, calm, conditions, laid).
  DERIVED. THE GIVEN ROWS OF THIS SEAT. 4 by the template 'for every input the law returns true; each argument reads behind the call as it read before'; 0 by the template 'total and deterministic' (their statements: YbulkwpkTotals.lean).
  GIVEN WITH THE SEED: the statements are not yours to turn. If you find one false, say at which input.
  Laid BY PROGRAM, IN A SANDBOX (cutbox-rows.mjs): the forced cells as the released guide's own fill.sh prints them over the translation 9c7d16e839b1e9bc… (all of the seat's roots in one cut). By AI agents, Wed Nov 11 2026. No macro, syntax, notation, axiom, sorry.
-/
import Derived.Test.YbulkwpkChecked
import GoSem.Claim
import GoSem.ClaimJoined
import GoSem.ClaimMapViews
import Derived.JoinedTies
import Derived.KernelRfl
namespace Go.Proofs.Ybulkwpk
/- THE CELL 'sum', in the pinned program and in every row, IS THE sha256 OF THE DUMP (.gsa) THAT YbulkwpkProg.lean LOADS. Nothing in Lean hashes anything: it is a label: what it is worth is what the hold of that sum in a sandbox is worth. -/
noncomputable def Yba.pinned : Pinned := { name := "ybulkwpk", sum := "9c7d16e839b1e9bcd74881dc74d0e643f209776a8eaa76a7a0e5daf1a301f5f5", checked := Yba.checked }
namespace Rows
def none {H : Type} : Left H := { results := [], args := [] }

/-- 'slotlatch.LawS1141AExact': WHATEVER THE INPUT: true; the input reads as it did. -/
def lawS1141AExactSpec : ChangeSpec := { name := "lawS1141AExact", fn := fun _ => fun
  | [d] => { results := [.lit (.bool true)], args := [d] }
  | _ => none }
def lawS1141AExactRow : OpenClaim := { program := "ybulkwpk", sum := "9c7d16e839b1e9bcd74881dc74d0e643f209776a8eaa76a7a0e5daf1a301f5f5", func := "example.com/slotlatch/slotlatch.LawS1141AExact", spec := "lawS1141AExact", apart := false }
def LawS1141AExactSaid : Prop := lawS1141AExactRow.holds Yba.pinned (OpenSpec.ofChange lawS1141AExactSpec)

/-- ITS FALSE NEIGHBOUR: 'it returns false'. Refute it at one input. -/
def lawS1141AExactWrong : ChangeSpec := { name := "lawS1141AExact", fn := fun _ => fun
  | [d] => { results := [.lit (.bool false)], args := [d] }
  | _ => none }
def LawS1141AExactWrongFalsely : Prop := lawS1141AExactRow.holds Yba.pinned (OpenSpec.ofChange lawS1141AExactWrong)

/-- 'slotlatch.LawS1141AValue': WHATEVER THE INPUT: true; the input reads as it did. -/
def lawS1141AValueSpec : ChangeSpec := { name := "lawS1141AValue", fn := fun _ => fun
  | [d] => { results := [.lit (.bool true)], args := [d] }
  | _ => none }
def lawS1141AValueRow : OpenClaim := { program := "ybulkwpk", sum := "9c7d16e839b1e9bcd74881dc74d0e643f209776a8eaa76a7a0e5daf1a301f5f5", func := "example.com/slotlatch/slotlatch.LawS1141AValue", spec := "lawS1141AValue", apart := false }
def LawS1141AValueSaid : Prop := lawS1141AValueRow.holds Yba.pinned (OpenSpec.ofChange lawS1141AValueSpec)

/-- ITS FALSE NEIGHBOUR: 'it returns false'. Refute it at one input. -/
def lawS1141AValueWrong : ChangeSpec := { name := "lawS1141AValue", fn := fun _ => fun
  | [d] => { results := [.lit (.bool false)], args := [d] }
  | _ => none }
def LawS1141AValueWrongFalsely : Prop := lawS1141AValueRow.holds Yba.pinned (OpenSpec.ofChange lawS1141AValueWrong)

/-- 'slotlatch.LawS1141CSchool': WHATEVER THE INPUT: true; the input reads as it did. -/
def lawS1141CSchoolSpec : ChangeSpec := { name := "lawS1141CSchool", fn := fun _ => fun
  | [d1, d2, d3] => { results := [.lit (.bool true)], args := [d1, d2, d3] }
  | _ => none }
def lawS1141CSchoolRow : OpenClaim := { program := "ybulkwpk", sum := "9c7d16e839b1e9bcd74881dc74d0e643f209776a8eaa76a7a0e5daf1a301f5f5", func := "example.com/slotlatch/slotlatch.LawS1141CSchool", spec := "lawS1141CSchool", inPlace := ["math/bits.Add64"], apart := false }
def LawS1141CSchoolSaid : Prop := lawS1141CSchoolRow.holds Yba.pinned (OpenSpec.ofChange lawS1141CSchoolSpec)

/-- ITS FALSE NEIGHBOUR: 'it returns false'. Refute it at one input. -/
def lawS1141CSchoolWrong : ChangeSpec := { name := "lawS1141CSchool", fn := fun _ => fun
  | [d1, d2, d3] => { results := [.lit (.bool false)], args := [d1, d2, d3] }
  | _ => none }
def LawS1141CSchoolWrongFalsely : Prop := lawS1141CSchoolRow.holds Yba.pinned (OpenSpec.ofChange lawS1141CSchoolWrong)

/-- 'slotlatch.LawS1141CWide': WHATEVER THE INPUT: true; the input reads as it did. -/
def lawS1141CWideSpec : ChangeSpec := { name := "lawS1141CWide", fn := fun _ => fun
  | [d1, d2] => { results := [.lit (.bool true)], args := [d1, d2] }
  | _ => none }
def lawS1141CWideRow : OpenClaim := { program := "ybulkwpk", sum := "9c7d16e839b1e9bcd74881dc74d0e643f209776a8eaa76a7a0e5daf1a301f5f5", func := "example.com/slotlatch/slotlatch.LawS1141CWide", spec := "lawS1141CWide", inPlace := ["math/bits.Add64"], apart := false }
def LawS1141CWideSaid : Prop := lawS1141CWideRow.holds Yba.pinned (OpenSpec.ofChange lawS1141CWideSpec)

/-- ITS FALSE NEIGHBOUR: 'it returns false'. Refute it at one input. -/
def lawS1141CWideWrong : ChangeSpec := { name := "lawS1141CWide", fn := fun _ => fun
  | [d1, d2] => { results := [.lit (.bool false)], args := [d1, d2] }
  | _ => none }
def LawS1141CWideWrongFalsely : Prop := lawS1141CWideRow.holds Yba.pinned (OpenSpec.ofChange lawS1141CWideWrong)

end Rows
end Go.Proofs.Ybulkwpk
