/-
  LawS1325ASave: THE ZERO SCANNER: 326 cells, under a name; what the law looks at of a scanner.
-/
import Derived.Test.YbulkaakmSaveC
import Derived.Deep.OwnRows
namespace Go.Proofs.Ybulkaakm.Save
open Go.RowKit

/-- The zero scanner's cells. -/
def zc62 : Array Value :=
  #[.nilIface, .slice none 0 0, .int .i64 0, .bool false, .int .i64 0, .nilIface, .slice none 0 0, .int .i64 0, .int .i64 0, .int .i64 0, .int .i64 0, .int .i64 0, .slice none 0 0, .int .i64 0, .int .i64 0, .bool false, .bool false, .pointer none, .nilIface, .slice none 0 0, .int .i64 0, .int .i64 0, .bool false, .bool false, .int .u8 0, .int .i64 0, .bool false, .slice none 0 0, .int .i64 0, .slice none 0 0, .slice none 0 0, .int .i64 0, .bool false, .bool false, .int .i64 0, .int .i64 0, .int .i64 0, .int .i64 0, .int .i64 0, .int .i64 0, .bool false, .bool false, .int .i64 0, .slice none 0 0, .slice none 0 0] ++ Array.replicate 256 (.string ⟨#[]⟩) ++ #[.nilFunc, .nilFunc, .bool false, .slice none 0 0, .int .i64 0, .int .i64 0, .int .i64 0, .int .i64 0, .int .i64 0, .int .i64 0, .int .i64 0, .int .i64 0, .string ⟨#[]⟩, .int .u8 0, .int .i64 0, .int .i64 0, .int .i64 0, .int .i64 0, .int .i64 0, .int .i64 0, .int .i64 0, .int .i64 0, .int .i64 0, .int .i64 0, .nilIface]

theorem zero_scanner (w : World) : (zeroValue 62).run Yba.prog w = .ok (.agg zc62) w := by kernel_rfl
theorem zc_size : zc62.size = 326 := by simp [zc62]
theorem zc_cells : zc62[8]? = some (.int .i64 0) ∧ zc62[9]? = some (.int .i64 0) ∧ zc62[10]? = some (.int .i64 0) ∧ zc62[11]? = some (.int .i64 0) := by
  refine ⟨?_, ?_, ?_, ?_⟩ <;> (unfold zc62; rw [Array.append_assoc, Array.getElem?_append_left (by simp)]; rfl)

/-- The scanner's cells that the law looks at. -/
structure Sc (w : World) (sb : Nat) (ka : Bool) (ind : Int) (af : Bool) (ta tb tc tk : Int) (qa : Option Addr) (q : Nat) (hd : Int) (fl ke : Value) (lo : Int) : Prop where
  c8 : ∃ v, w.cell? ⟨sb, 8, none⟩ = some v
  c9 : ∃ v, w.cell? ⟨sb, 9, none⟩ = some v
  c10 : ∃ v, w.cell? ⟨sb, 10, none⟩ = some v
  c11 : ∃ v, w.cell? ⟨sb, 11, none⟩ = some v
  c19 : w.cell? ⟨sb, 19, none⟩ = some (.slice qa q q)
  c20 : w.cell? ⟨sb, 20, none⟩ = some (.int .i64 hd)
  c21 : w.cell? ⟨sb, 21, none⟩ = some (.int .i64 tk)
  c25 : w.cell? ⟨sb, 25, none⟩ = some (.int .i64 ind)
  c29 : w.cell? ⟨sb, 29, none⟩ = some fl
  c30 : w.cell? ⟨sb, 30, none⟩ = some ke
  c31 : w.cell? ⟨sb, 31, none⟩ = some (.int .i64 lo)
  c32 : w.cell? ⟨sb, 32, none⟩ = some (.bool ka)
  c33 : w.cell? ⟨sb, 33, none⟩ = some (.bool af)
  c34 : w.cell? ⟨sb, 34, none⟩ = some (.int .i64 ta)
  c35 : w.cell? ⟨sb, 35, none⟩ = some (.int .i64 tb)
  c36 : w.cell? ⟨sb, 36, none⟩ = some (.int .i64 tc)
  frz : ∀ o, w.frozen? ⟨sb, o, none⟩ = false

theorem info88 : (Yba.prog.info? 88).map (fun i => (i.zero, i.size, i.bytes)) = some (some (.agg #[.int .u8 0, .int .i64 0, .int .i64 0, .int .i64 0, .int .i64 0, .int .i64 0, .int .i64 0, .string ⟨#[]⟩, .int .u8 0, .string ⟨#[]⟩, .nilIface]), 11, 112) := by kernel_rfl

/-- The queue's cells: whatever. -/
def quC (q : Nat) : Array Value := madeCells #[.int .u8 0, .int .i64 0, .int .i64 0, .int .i64 0, .int .i64 0, .int .i64 0, .int .i64 0, .string ⟨#[]⟩, .int .u8 0, .string ⟨#[]⟩, .nilIface] (q * 11)

/-- make([]token, q). -/
theorem make_queue (q : Nat) (hq : q ≤ 255) (w : World) : (Instr.makeSlice 34 (.int .i64 (q : Int)) (.int .i64 (q : Int))).run Yba.prog w = .ok (.slice (some ⟨w.heap.size, 0, none⟩) q q) (w.alloc (.cells (quC q) 88)) := by
  obtain ⟨i, hi, hz, hs, hb⟩ := info_parts info88
  have hr := run_make (P := Yba.prog) w 34 88 i _ Yba.underlying34 hi hz .i64 .i64 (q : Int) (q : Int) (by omega) (Int.le_refl _) (by rw [hb]; omega) (by omega)
  rw [hs, Int.toNat_natCast] at hr
  exact hr

end Go.Proofs.Ybulkaakm.Save
