/-
  No cell of these rows narrows 'for every input' (looked for: loops, veiled, ifaces, maps, wideKeys, modest, calm, conditions, laid).
  DERIVED. THE GIVEN ROWS OF THIS SEAT. 3 by the template 'for every input the law returns true; each argument reads behind the call as it read before'; 0 by the template 'total and deterministic' (their statements: YbulkaakmTotals.lean).
  GIVEN WITH THE SEED: the statements are not yours to turn. If you find one false, say at which input.
  Laid BY PROGRAM, IN A SANDBOX (cutbox-rows.mjs): the forced cells as the released guide's own fill.sh prints them over the translation 2bb0c4d8d53ffba6… (all of the seat's roots in one cut). By AI agents, Wed Nov 11 2026. No macro, syntax, notation, axiom, sorry.
-/
import Derived.Test.YbulkaakmChecked
import GoSem.Claim
import GoSem.ClaimJoined
import GoSem.ClaimMapViews
import Derived.JoinedTies
import Derived.KernelRfl
namespace Go.Proofs.Ybulkaakm
/- THE CELL 'sum', in the pinned program and in every row, IS THE sha256 OF THE DUMP (.gsa) THAT YbulkaakmProg.lean LOADS. Nothing in Lean hashes anything: it is a label: what it is worth is what the hold of that sum in a sandbox is worth. -/
noncomputable def Yba.pinned : Pinned := { name := "ybulkaakm", sum := "2bb0c4d8d53ffba68d20b0cc36f21d596f0a852e1736418443759cbc8ced99a3", checked := Yba.checked }
namespace Rows
def none {H : Type} : Left H := { results := [], args := [] }

/-- 'renglon.LawS1325ASave': WHATEVER THE INPUT: true; the input reads as it did. -/
def lawS1325ASaveSpec : ChangeSpec := { name := "lawS1325ASave", fn := fun _ => fun
  | [d] => { results := [.lit (.bool true)], args := [d] }
  | _ => none }
def lawS1325ASaveRow : OpenClaim := { program := "ybulkaakm", sum := "2bb0c4d8d53ffba68d20b0cc36f21d596f0a852e1736418443759cbc8ced99a3", func := "example.com/renglon/renglon.LawS1325ASave", spec := "lawS1325ASave", apart := false }
def LawS1325ASaveSaid : Prop := lawS1325ASaveRow.holds Yba.pinned (OpenSpec.ofChange lawS1325ASaveSpec)

/-- ITS FALSE NEIGHBOUR: 'it returns false'. Refute it at one input. -/
def lawS1325ASaveWrong : ChangeSpec := { name := "lawS1325ASave", fn := fun _ => fun
  | [d] => { results := [.lit (.bool false)], args := [d] }
  | _ => none }
def LawS1325ASaveWrongFalsely : Prop := lawS1325ASaveRow.holds Yba.pinned (OpenSpec.ofChange lawS1325ASaveWrong)

/-- 'renglon.LawS1325BExact': WHATEVER THE INPUT: true; the input reads as it did. -/
def lawS1325BExactSpec : ChangeSpec := { name := "lawS1325BExact", fn := fun _ => fun
  | [d1, d2, d3, d4, d5, d6, d7, d8, d9] => { results := [.lit (.bool true)], args := [d1, d2, d3, d4, d5, d6, d7, d8, d9] }
  | _ => none }
def lawS1325BExactRow : OpenClaim := { program := "ybulkaakm", sum := "2bb0c4d8d53ffba68d20b0cc36f21d596f0a852e1736418443759cbc8ced99a3", func := "example.com/renglon/renglon.LawS1325BExact", spec := "lawS1325BExact", apart := false }
def LawS1325BExactSaid : Prop := lawS1325BExactRow.holds Yba.pinned (OpenSpec.ofChange lawS1325BExactSpec)

/-- ITS FALSE NEIGHBOUR: 'it returns false'. Refute it at one input. -/
def lawS1325BExactWrong : ChangeSpec := { name := "lawS1325BExact", fn := fun _ => fun
  | [d1, d2, d3, d4, d5, d6, d7, d8, d9] => { results := [.lit (.bool false)], args := [d1, d2, d3, d4, d5, d6, d7, d8, d9] }
  | _ => none }
def LawS1325BExactWrongFalsely : Prop := lawS1325BExactRow.holds Yba.pinned (OpenSpec.ofChange lawS1325BExactWrong)

/-- 'renglon.LawS1325BRun': WHATEVER THE INPUT: true; the input reads as it did. -/
def lawS1325BRunSpec : ChangeSpec := { name := "lawS1325BRun", fn := fun _ => fun
  | [d1, d2, d3, d4, d5] => { results := [.lit (.bool true)], args := [d1, d2, d3, d4, d5] }
  | _ => none }
def lawS1325BRunRow : OpenClaim := { program := "ybulkaakm", sum := "2bb0c4d8d53ffba68d20b0cc36f21d596f0a852e1736418443759cbc8ced99a3", func := "example.com/renglon/renglon.LawS1325BRun", spec := "lawS1325BRun", apart := false }
def LawS1325BRunSaid : Prop := lawS1325BRunRow.holds Yba.pinned (OpenSpec.ofChange lawS1325BRunSpec)

/-- ITS FALSE NEIGHBOUR: 'it returns false'. Refute it at one input. -/
def lawS1325BRunWrong : ChangeSpec := { name := "lawS1325BRun", fn := fun _ => fun
  | [d1, d2, d3, d4, d5] => { results := [.lit (.bool false)], args := [d1, d2, d3, d4, d5] }
  | _ => none }
def LawS1325BRunWrongFalsely : Prop := lawS1325BRunRow.holds Yba.pinned (OpenSpec.ofChange lawS1325BRunWrong)

end Rows
end Go.Proofs.Ybulkaakm
