/-
  No cell of these rows narrows 'for every input' (looked for: loops, veiled, ifaces, maps, wideKeys, modest, calm, conditions, laid).
  DERIVED. THE GIVEN ROWS OF THIS SEAT. 1 by the template 'for every input the law returns true; each argument reads behind the call as it read before'; 0 by the template 'total and deterministic' (their statements: YbulkaajkFmtTotals.lean).
  GIVEN WITH THE SEED: the statements are not yours to turn. If you find one false, say at which input.
  Laid BY PROGRAM, IN A SANDBOX (cutbox-rows.mjs): the forced cells as the released guide's own fill.sh prints them over the translation 60df3881ec68190c… (all of the seat's roots in one cut). By AI agents, Wed Nov 11 2026. No macro, syntax, notation, axiom, sorry.
-/
import Derived.Test.YbulkaajkFmtChecked
import GoSem.Claim
import GoSem.ClaimJoined
import GoSem.ClaimMapViews
import Derived.JoinedTies
import Derived.KernelRfl
namespace Go.Proofs.YbulkaajkFmt
/- THE CELL 'sum', in the pinned program and in every row, IS THE sha256 OF THE DUMP (.gsa) THAT YbulkaajkFmtProg.lean LOADS. Nothing in Lean hashes anything: it is a label: what it is worth is what the hold of that sum in a sandbox is worth. -/
noncomputable def Ybaf.pinned : Pinned := { name := "ybulkaajkfmt", sum := "60df3881ec68190c3d712f7447afa298b6fa5fba84f68784ae7614f6b3696029", checked := Ybaf.checked }
namespace Rows
def none {H : Type} : Left H := { results := [], args := [] }

/-- 'module.LawS1323ANoSharedCode': WHATEVER THE INPUT: true; the input reads as it did. -/
def lawS1323ANoSharedCodeSpec : ChangeSpec := { name := "lawS1323ANoSharedCode", fn := fun _ => fun
  | [d1, d2, d3] => { results := [.lit (.bool true)], args := [d1, d2, d3] }
  | _ => none }
def lawS1323ANoSharedCodeRow : OpenClaim := { program := "ybulkaajkfmt", sum := "60df3881ec68190c3d712f7447afa298b6fa5fba84f68784ae7614f6b3696029", func := "example.com/commandry/commandry/module.LawS1323ANoSharedCode", spec := "lawS1323ANoSharedCode", stops := ["fmt.errorf"], inPlace := ["fmt.errorf"], apart := false }
/-- NO THEOREM (fmt's text is open here; it may be false): for the released tool's asking of the row's closed facts alone. THE STATEMENT IS 'LawS1323ANoSharedCodeToldSaid' (YbulkaajkFmtCards.lean). -/
def LawS1323ANoSharedCodeFormAsk : Prop := lawS1323ANoSharedCodeRow.holds Ybaf.pinned (OpenSpec.ofChange lawS1323ANoSharedCodeSpec)

/-- ITS FALSE NEIGHBOUR: 'it returns false'. Refute it at one input. -/
def lawS1323ANoSharedCodeWrong : ChangeSpec := { name := "lawS1323ANoSharedCode", fn := fun _ => fun
  | [d1, d2, d3] => { results := [.lit (.bool false)], args := [d1, d2, d3] }
  | _ => none }
def LawS1323ANoSharedCodeWrongFormAsk : Prop := lawS1323ANoSharedCodeRow.holds Ybaf.pinned (OpenSpec.ofChange lawS1323ANoSharedCodeWrong)

end Rows
end Go.Proofs.YbulkaajkFmt
