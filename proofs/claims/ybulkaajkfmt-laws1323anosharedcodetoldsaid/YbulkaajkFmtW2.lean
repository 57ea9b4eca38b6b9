/-
  fmt.Errorf AT checkCodes' FORMAT: THE CLOSED FACTS ON THE STOP, AND THE CALL's CONTRACT.
-/
import Derived.Test.YbulkaajkFmtW1
import Derived.Stop.CallBack
import Derived.Stop.IfaceNil
import GoSem.ClaimData
namespace Go.Proofs.YbulkaajkFmt
open Go.RowKit Go.Extern.Stop Go.Stop Go.Extern

theorem call9 (args : Array Value) (w : World) : (callFunc 9 args).run Ybaf.prog w = ((FmtStop.errorf #[9, 61] #[55] args).run Ybaf.prog w).andThen fun v w' => .ok (.value v) w' :=
  run_callFunc_extern Ybaf.func9 (by kernel_rfl) (by kernel_rfl) (by kernel_rfl) (by kernel_rfl) args w
theorem guard_ok (name : String) (w : World) : (FmtStop.guard name).run Ybaf.prog w = .ok () w := by kernel_rfl
/-- 'module %s has command %s, which module %s has already'. -/
abbrev fmtB : ByteArray := ⟨#[109, 111, 100, 117, 108, 101, 32, 37, 115, 32, 104, 97, 115, 32, 99, 111, 109, 109, 97, 110, 100, 32, 37, 115, 44, 32, 119, 104, 105, 99, 104, 32, 109, 111, 100, 117, 108, 101, 32, 37, 115, 32, 104, 97, 115, 32, 97, 108, 114, 101, 97, 100, 121]⟩
theorem fmt0 : FmtStop.printed? fmtB 3 = some [(0, 115, false), (1, 115, false), (2, 115, false)] := by kernel_rfl
theorem fmt0r (w : World) : (FmtDoors.printed fmtB 3).run Ybaf.prog w = .ok [(0, 115, false), (1, 115, false), (2, 115, false)] w := by kernel_rfl
def shape9 : List UInt8 := [12, 6, 0, 0, 0, 0, 0, 0, 0, 115, 116, 114, 105, 110, 103]
theorem op9_115 (name : String) (x : ByteArray) (w : World) : (FmtStop.operand name false 115 false (.iface 9 (.string x))).run Ybaf.prog w = .ok (shape9, FmtStop.pack x.data.toList) w := by kernel_rfl
theorem op9_115w (name : String) (x : ByteArray) (w : World) : (FmtStop.operand name true 115 false (.iface 9 (.string x))).run Ybaf.prog w = .ok (shape9, FmtStop.pack x.data.toList) w := by kernel_rfl
theorem strict9 (name : String) (x : ByteArray) (w : World) : (FmtStop.strict name (.iface 9 (.string x))).run Ybaf.prog w = .ok (shape9, FmtStop.pack x.data.toList) w := by kernel_rfl
theorem ptr64 (w : World) : (FmtStop.ptrTo "errors.errorString").run Ybaf.prog w = .ok 64 w := by kernel_rfl
theorem elem64 (w : World) : (elemOf 64).run Ybaf.prog w = .ok 66 w := by kernel_rfl
theorem isError64 (w : World) : (FmtDoors.textMethod 64 "Error").run Ybaf.prog w = .ok true w := by kernel_rfl
attribute [local go_sem] call9 guard_ok fmt0 fmt0r op9_115 op9_115w strict9 ptr64 elem64 isError64

/-- The call, its three operands lying in the variadic slice's block: a new error, one new block, one draw. -/
theorem errorf_any (F : Interp) (a b c : ByteArray) (blk : Nat) (w : World) (hF : F.answers w.tape)
    (hc0 : w.cell? ⟨blk, 0, none⟩ = some (.iface 9 (.string a))) (hc1 : w.cell? ⟨blk, 1, none⟩ = some (.iface 9 (.string b))) (hc2 : w.cell? ⟨blk, 2, none⟩ = some (.iface 9 (.string c))) :
    Calls Ybaf.prog 7 #[.string fmtB, .slice (some ⟨blk, 0, none⟩) 3 3] w fun e w' =>
      (∃ g, e = .returned (.iface 64 (.pointer (some ⟨g, 0, none⟩)))) ∧ Below w.heap.size w w' := by
  have hF' := answers_open hF
  go_enter Ybaf.func7, Ybaf.ntmps7
  go_wp2
  go_ret
  exact ⟨⟨_, rfl⟩, ((Below.refl _ _).alloc (Nat.le_refl _) _).drew⟩

end Go.Proofs.YbulkaajkFmt
