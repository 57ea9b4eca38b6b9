/-
  No cell of these rows narrows 'for every input' (looked for: loops, veiled, ifaces, maps, wideKeys, modest, calm, conditions, laid).
  DERIVED. THE GIVEN ROWS OF THIS SEAT. 2 by the template 'for every input the law returns true; each argument reads behind the call as it read before'; 0 by the template 'total and deterministic' (their statements: YbulkaaloTotals.lean).
  GIVEN WITH THE SEED: the statements are not yours to turn. If you find one false, say at which input.
  Laid BY PROGRAM, IN A SANDBOX (cutbox-rows.mjs): the forced cells as the released guide's own fill.sh prints them over the translation 25d0cdac0e631bcf… (all of the seat's roots in one cut). By AI agents, Wed Nov 11 2026. No macro, syntax, notation, axiom, sorry.
-/
import Derived.Test.YbulkaaloChecked
import GoSem.Claim
import GoSem.ClaimJoined
import GoSem.ClaimMapViews
import Derived.JoinedTies
import Derived.KernelRfl
namespace Go.Proofs.Ybulkaalo
/- THE CELL 'sum', in the pinned program and in every row, IS THE sha256 OF THE DUMP (.gsa) THAT YbulkaaloProg.lean LOADS. Nothing in Lean hashes anything: it is a label: what it is worth is what the hold of that sum in a sandbox is worth. -/
noncomputable def Yba.pinned : Pinned := { name := "ybulkaalo", sum := "25d0cdac0e631bcf7be5462cf061680c7ddc9c00eedfeb5f51ca306740ca77dc", checked := Yba.checked }
namespace Rows
def none {H : Type} : Left H := { results := [], args := [] }

/-- 'orrery.LawS1327ADayAndFraction': WHATEVER THE INPUT: true; the input reads as it did. -/
def lawS1327ADayAndFractionSpec : ChangeSpec := { name := "lawS1327ADayAndFraction", fn := fun _ => fun
  | [d1, d2, d3] => { results := [.lit (.bool true)], args := [d1, d2, d3] }
  | _ => none }
def lawS1327ADayAndFractionRow : OpenClaim := { program := "ybulkaalo", sum := "25d0cdac0e631bcf7be5462cf061680c7ddc9c00eedfeb5f51ca306740ca77dc", func := "example.com/orrery/orrery.LawS1327ADayAndFraction", spec := "lawS1327ADayAndFraction", inPlace := ["math.archFloor", "math.Float64bits", "math.Float64frombits", "math.archTrunc"], apart := false }
def LawS1327ADayAndFractionSaid : Prop := lawS1327ADayAndFractionRow.holds Yba.pinned (OpenSpec.ofChange lawS1327ADayAndFractionSpec)

/-- ITS FALSE NEIGHBOUR: 'it returns false'. Refute it at one input. -/
def lawS1327ADayAndFractionWrong : ChangeSpec := { name := "lawS1327ADayAndFraction", fn := fun _ => fun
  | [d1, d2, d3] => { results := [.lit (.bool false)], args := [d1, d2, d3] }
  | _ => none }
def LawS1327ADayAndFractionWrongFalsely : Prop := lawS1327ADayAndFractionRow.holds Yba.pinned (OpenSpec.ofChange lawS1327ADayAndFractionWrong)

/-- 'orrery.LawS1327AFractionInUnit': WHATEVER THE INPUT: true; the input reads as it did. -/
def lawS1327AFractionInUnitSpec : ChangeSpec := { name := "lawS1327AFractionInUnit", fn := fun _ => fun
  | [d1, d2] => { results := [.lit (.bool true)], args := [d1, d2] }
  | _ => none }
def lawS1327AFractionInUnitRow : OpenClaim := { program := "ybulkaalo", sum := "25d0cdac0e631bcf7be5462cf061680c7ddc9c00eedfeb5f51ca306740ca77dc", func := "example.com/orrery/orrery.LawS1327AFractionInUnit", spec := "lawS1327AFractionInUnit", inPlace := ["math.Float64bits", "math.Float64frombits", "math.archFloor", "math.archTrunc"], apart := false }
def LawS1327AFractionInUnitSaid : Prop := lawS1327AFractionInUnitRow.holds Yba.pinned (OpenSpec.ofChange lawS1327AFractionInUnitSpec)

/-- ITS FALSE NEIGHBOUR: 'it returns false'. Refute it at one input. -/
def lawS1327AFractionInUnitWrong : ChangeSpec := { name := "lawS1327AFractionInUnit", fn := fun _ => fun
  | [d1, d2] => { results := [.lit (.bool false)], args := [d1, d2] }
  | _ => none }
def LawS1327AFractionInUnitWrongFalsely : Prop := lawS1327AFractionInUnitRow.holds Yba.pinned (OpenSpec.ofChange lawS1327AFractionInUnitWrong)

end Rows
end Go.Proofs.Ybulkaalo
