/-
  No cell of these rows narrows 'for every input' (looked for: loops, veiled, ifaces, maps, wideKeys, modest, calm, conditions, laid).
  DERIVED. THE GIVEN ROWS OF THIS SEAT. 2 by the template 'for every input the law returns true; each argument reads behind the call as it read before'; 0 by the template 'total and deterministic' (their statements: YbulkwowTotals.lean).
  GIVEN WITH THE SEED: the statements are not yours to turn. If you find one false, say at which input.
  Laid BY PROGRAM, IN A SANDBOX (cutbox-rows.mjs): the forced cells as the released guide's own fill.sh prints them over the translation c3a850e6fe63d20c… (all of the seat's roots in one cut). By AI agents, Wed Nov 11 2026. No macro, syntax, notation, axiom, sorry.
-/
import Derived.Test.YbulkwowChecked
import GoSem.Claim
import GoSem.ClaimJoined
import GoSem.ClaimMapViews
import Derived.JoinedTies
import Derived.KernelRfl
namespace Go.Proofs.Ybulkwow
/- THE CELL 'sum', in the pinned program and in every row, IS THE sha256 OF THE DUMP (.gsa) THAT YbulkwowProg.lean LOADS. Nothing in Lean hashes anything: it is a label: what it is worth is what the hold of that sum in a sandbox is worth. -/
noncomputable def Yba.pinned : Pinned := { name := "ybulkwow", sum := "c3a850e6fe63d20c319a827dae2c5497c9faeb39e33906d037c2917299bca231", checked := Yba.checked }
namespace Rows
def none {H : Type} : Left H := { results := [], args := [] }

/-- 'store.LawS1140BTakes': WHATEVER THE INPUT: true; the input reads as it did. -/
def lawS1140BTakesSpec : ChangeSpec := { name := "lawS1140BTakes", fn := fun _ => fun
  | [d1, d2, d3, d4, d5, d6, d7, d8] => { results := [.lit (.bool true)], args := [d1, d2, d3, d4, d5, d6, d7, d8] }
  | _ => none }
def lawS1140BTakesRow : OpenClaim := { program := "ybulkwow", sum := "c3a850e6fe63d20c319a827dae2c5497c9faeb39e33906d037c2917299bca231", func := "example.com/ringfold/ringfold/pkg/store.LawS1140BTakes", spec := "lawS1140BTakes", apart := false }
def LawS1140BTakesSaid : Prop := lawS1140BTakesRow.holds Yba.pinned (OpenSpec.ofChange lawS1140BTakesSpec)

/-- ITS FALSE NEIGHBOUR: 'it returns false'. Refute it at one input. -/
def lawS1140BTakesWrong : ChangeSpec := { name := "lawS1140BTakes", fn := fun _ => fun
  | [d1, d2, d3, d4, d5, d6, d7, d8] => { results := [.lit (.bool false)], args := [d1, d2, d3, d4, d5, d6, d7, d8] }
  | _ => none }
def LawS1140BTakesWrongFalsely : Prop := lawS1140BTakesRow.holds Yba.pinned (OpenSpec.ofChange lawS1140BTakesWrong)

/-- 'store.LawS1140BFresh': WHATEVER THE INPUT: true; the input reads as it did. -/
def lawS1140BFreshSpec : ChangeSpec := { name := "lawS1140BFresh", fn := fun _ => fun
  | [d] => { results := [.lit (.bool true)], args := [d] }
  | _ => none }
def lawS1140BFreshRow : OpenClaim := { program := "ybulkwow", sum := "c3a850e6fe63d20c319a827dae2c5497c9faeb39e33906d037c2917299bca231", func := "example.com/ringfold/ringfold/pkg/store.LawS1140BFresh", spec := "lawS1140BFresh", apart := false }
def LawS1140BFreshSaid : Prop := lawS1140BFreshRow.holds Yba.pinned (OpenSpec.ofChange lawS1140BFreshSpec)

/-- ITS FALSE NEIGHBOUR: 'it returns false'. Refute it at one input. -/
def lawS1140BFreshWrong : ChangeSpec := { name := "lawS1140BFresh", fn := fun _ => fun
  | [d] => { results := [.lit (.bool false)], args := [d] }
  | _ => none }
def LawS1140BFreshWrongFalsely : Prop := lawS1140BFreshRow.holds Yba.pinned (OpenSpec.ofChange lawS1140BFreshWrong)

end Rows
end Go.Proofs.Ybulkwow
