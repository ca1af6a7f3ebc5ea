/-
  No cell of these rows narrows 'for every input' (looked for: loops, veiled, ifaces, maps, wideKeys, modest, calm, conditions, laid).
  DERIVED. THE GIVEN ROWS OF THIS SEAT. 4 by the template 'for every input the law returns true; each argument reads behind the call as it read before'; 0 by the template 'total and deterministic' (their statements: YbulkwmsTotals.lean).
  GIVEN WITH THE SEED: the statements are not yours to turn. If you find one false, say at which input.
  Laid BY PROGRAM, IN A SANDBOX (cutbox-rows.mjs): the forced cells as the released guide's own fill.sh prints them over the translation 25f82175cb8f0dfd… (all of the seat's roots in one cut). By AI agents, Wed Nov 11 2026. No macro, syntax, notation, axiom, sorry.
-/
import Derived.Test.YbulkwmsChecked
import GoSem.Claim
import GoSem.ClaimJoined
import GoSem.ClaimMapViews
import Derived.JoinedTies
import Derived.KernelRfl
namespace Go.Proofs.Ybulkwms
/- THE CELL 'sum', in the pinned program and in every row, IS THE sha256 OF THE DUMP (.gsa) THAT YbulkwmsProg.lean LOADS. Nothing in Lean hashes anything: it is a label: what it is worth is what the hold of that sum in a sandbox is worth. -/
noncomputable def Yba.pinned : Pinned := { name := "ybulkwms", sum := "25f82175cb8f0dfd7969079eb25552fcf0db5fb5a42c2b6cf5f962b421b3af40", checked := Yba.checked }
namespace Rows
def none {H : Type} : Left H := { results := [], args := [] }

/-- 'group.LawS1136AModel': WHATEVER THE INPUT: true; the input reads as it did. -/
def lawS1136AModelSpec : ChangeSpec := { name := "lawS1136AModel", fn := fun _ => fun
  | [d] => { results := [.lit (.bool true)], args := [d] }
  | _ => none }
def lawS1136AModelRow : OpenClaim := { program := "ybulkwms", sum := "25f82175cb8f0dfd7969079eb25552fcf0db5fb5a42c2b6cf5f962b421b3af40", func := "example.com/semblance/semblance/pkg/group.LawS1136AModel", spec := "lawS1136AModel", named := ["encoding/binary.BigEndian"], apart := false }
def LawS1136AModelSaid : Prop := lawS1136AModelRow.holds Yba.pinned (OpenSpec.ofChange lawS1136AModelSpec)

/-- ITS FALSE NEIGHBOUR: 'it returns false'. Refute it at one input. -/
def lawS1136AModelWrong : ChangeSpec := { name := "lawS1136AModel", fn := fun _ => fun
  | [d] => { results := [.lit (.bool false)], args := [d] }
  | _ => none }
def LawS1136AModelWrongFalsely : Prop := lawS1136AModelRow.holds Yba.pinned (OpenSpec.ofChange lawS1136AModelWrong)

/-- 'group.LawS1136ARoundTrip': WHATEVER THE INPUT: true; the input reads as it did. -/
def lawS1136ARoundTripSpec : ChangeSpec := { name := "lawS1136ARoundTrip", fn := fun _ => fun
  | [d1, d2, d3, d4, d5, d6] => { results := [.lit (.bool true)], args := [d1, d2, d3, d4, d5, d6] }
  | _ => none }
def lawS1136ARoundTripRow : OpenClaim := { program := "ybulkwms", sum := "25f82175cb8f0dfd7969079eb25552fcf0db5fb5a42c2b6cf5f962b421b3af40", func := "example.com/semblance/semblance/pkg/group.LawS1136ARoundTrip", spec := "lawS1136ARoundTrip", named := ["encoding/binary.BigEndian"], apart := false }
def LawS1136ARoundTripSaid : Prop := lawS1136ARoundTripRow.holds Yba.pinned (OpenSpec.ofChange lawS1136ARoundTripSpec)

/-- ITS FALSE NEIGHBOUR: 'it returns false'. Refute it at one input. -/
def lawS1136ARoundTripWrong : ChangeSpec := { name := "lawS1136ARoundTrip", fn := fun _ => fun
  | [d1, d2, d3, d4, d5, d6] => { results := [.lit (.bool false)], args := [d1, d2, d3, d4, d5, d6] }
  | _ => none }
def LawS1136ARoundTripWrongFalsely : Prop := lawS1136ARoundTripRow.holds Yba.pinned (OpenSpec.ofChange lawS1136ARoundTripWrong)

/-- 'output.LawS1136BNext': WHATEVER THE INPUT: true; the input reads as it did. -/
def lawS1136BNextSpec : ChangeSpec := { name := "lawS1136BNext", fn := fun _ => fun
  | [d1, d2] => { results := [.lit (.bool true)], args := [d1, d2] }
  | _ => none }
def lawS1136BNextRow : OpenClaim := { program := "ybulkwms", sum := "25f82175cb8f0dfd7969079eb25552fcf0db5fb5a42c2b6cf5f962b421b3af40", func := "example.com/semblance/semblance/pkg/output.LawS1136BNext", spec := "lawS1136BNext", apart := false }
def LawS1136BNextSaid : Prop := lawS1136BNextRow.holds Yba.pinned (OpenSpec.ofChange lawS1136BNextSpec)

/-- ITS FALSE NEIGHBOUR: 'it returns false'. Refute it at one input. -/
def lawS1136BNextWrong : ChangeSpec := { name := "lawS1136BNext", fn := fun _ => fun
  | [d1, d2] => { results := [.lit (.bool false)], args := [d1, d2] }
  | _ => none }
def LawS1136BNextWrongFalsely : Prop := lawS1136BNextRow.holds Yba.pinned (OpenSpec.ofChange lawS1136BNextWrong)

/-- 'output.LawS1136BFields': WHATEVER THE INPUT: true; the input reads as it did. -/
def lawS1136BFieldsSpec : ChangeSpec := { name := "lawS1136BFields", fn := fun _ => fun
  | [d] => { results := [.lit (.bool true)], args := [d] }
  | _ => none }
def lawS1136BFieldsRow : OpenClaim := { program := "ybulkwms", sum := "25f82175cb8f0dfd7969079eb25552fcf0db5fb5a42c2b6cf5f962b421b3af40", func := "example.com/semblance/semblance/pkg/output.LawS1136BFields", spec := "lawS1136BFields", apart := false }
def LawS1136BFieldsSaid : Prop := lawS1136BFieldsRow.holds Yba.pinned (OpenSpec.ofChange lawS1136BFieldsSpec)

/-- ITS FALSE NEIGHBOUR: 'it returns false'. Refute it at one input. -/
def lawS1136BFieldsWrong : ChangeSpec := { name := "lawS1136BFields", fn := fun _ => fun
  | [d] => { results := [.lit (.bool false)], args := [d] }
  | _ => none }
def LawS1136BFieldsWrongFalsely : Prop := lawS1136BFieldsRow.holds Yba.pinned (OpenSpec.ofChange lawS1136BFieldsWrong)

end Rows
end Go.Proofs.Ybulkwms
