/-
  No cell of these rows narrows 'for every input' (looked for: loops, veiled, ifaces, maps, wideKeys, modest, calm, conditions, laid).
  DERIVED. THE GIVEN ROWS OF THIS SEAT. 2 by the template 'for every input the law returns true; each argument reads behind the call as it read before'; 0 by the template 'total and deterministic' (their statements: YbulkwoiTotals.lean).
  GIVEN WITH THE SEED: the statements are not yours to turn. If you find one false, say at which input.
  Laid BY PROGRAM, IN A SANDBOX (cutbox-rows.mjs): the forced cells as the released guide's own fill.sh prints them over the translation 801c491bb4d16f5b… (all of the seat's roots in one cut). By AI agents, Wed Nov 11 2026. No macro, syntax, notation, axiom, sorry.
-/
import Derived.Test.YbulkwoiChecked
import GoSem.Claim
import GoSem.ClaimJoined
import GoSem.ClaimMapViews
import Derived.JoinedTies
import Derived.KernelRfl
namespace Go.Proofs.Ybulkwoi
/- THE CELL 'sum', in the pinned program and in every row, IS THE sha256 OF THE DUMP (.gsa) THAT YbulkwoiProg.lean LOADS. Nothing in Lean hashes anything: it is a label: what it is worth is what the hold of that sum in a sandbox is worth. -/
noncomputable def Yba.pinned : Pinned := { name := "ybulkwoi", sum := "801c491bb4d16f5b0933e978cb93ffda8f649da97fc4529d0d021687b422914a", checked := Yba.checked }
namespace Rows
def none {H : Type} : Left H := { results := [], args := [] }

/-- 'examples.LawS1139AStart': WHATEVER THE INPUT: true; the input reads as it did. -/
def lawS1139AStartSpec : ChangeSpec := { name := "lawS1139AStart", fn := fun _ => fun
  | [d] => { results := [.lit (.bool true)], args := [d] }
  | _ => none }
def lawS1139AStartRow : OpenClaim := { program := "ybulkwoi", sum := "801c491bb4d16f5b0933e978cb93ffda8f649da97fc4529d0d021687b422914a", func := "example.com/wardwright/wardwright/examples.LawS1139AStart", spec := "lawS1139AStart", apart := false }
def LawS1139AStartSaid : Prop := lawS1139AStartRow.holds Yba.pinned (OpenSpec.ofChange lawS1139AStartSpec)

/-- ITS FALSE NEIGHBOUR: 'it returns false'. Refute it at one input. -/
def lawS1139AStartWrong : ChangeSpec := { name := "lawS1139AStart", fn := fun _ => fun
  | [d] => { results := [.lit (.bool false)], args := [d] }
  | _ => none }
def LawS1139AStartWrongFalsely : Prop := lawS1139AStartRow.holds Yba.pinned (OpenSpec.ofChange lawS1139AStartWrong)

/-- 'examples.LawS1139AFresh': WHATEVER THE INPUT: true; the input reads as it did. -/
def lawS1139AFreshSpec : ChangeSpec := { name := "lawS1139AFresh", fn := fun _ => fun
  | [d] => { results := [.lit (.bool true)], args := [d] }
  | _ => none }
def lawS1139AFreshRow : OpenClaim := { program := "ybulkwoi", sum := "801c491bb4d16f5b0933e978cb93ffda8f649da97fc4529d0d021687b422914a", func := "example.com/wardwright/wardwright/examples.LawS1139AFresh", spec := "lawS1139AFresh", apart := false }
def LawS1139AFreshSaid : Prop := lawS1139AFreshRow.holds Yba.pinned (OpenSpec.ofChange lawS1139AFreshSpec)

/-- ITS FALSE NEIGHBOUR: 'it returns false'. Refute it at one input. -/
def lawS1139AFreshWrong : ChangeSpec := { name := "lawS1139AFresh", fn := fun _ => fun
  | [d] => { results := [.lit (.bool false)], args := [d] }
  | _ => none }
def LawS1139AFreshWrongFalsely : Prop := lawS1139AFreshRow.holds Yba.pinned (OpenSpec.ofChange lawS1139AFreshWrong)

end Rows
end Go.Proofs.Ybulkwoi
