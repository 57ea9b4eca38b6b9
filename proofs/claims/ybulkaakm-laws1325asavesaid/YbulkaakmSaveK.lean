/-
  LawS1325ASave: THE KEYS' BLOCK, AND WHAT THE LAW LOOKS AT.
-/
import Derived.Test.YbulkaakmSaveC
import Derived.Test.YbulkaakmSaveS
import Derived.Test.YbulkaakmSaveE
import Derived.Test.YbulkaakmSaveM
import Derived.Test.YbulkaakmSaveR
import Derived.Test.YbulkaakmSaveQ
import Derived.Deep.OwnRows
import Derived.Laws.StructEq
import Derived.Deep.RegionHeld3
namespace Go.Proofs.Ybulkaakm.Save
open Go.RowKit
set_option linter.unusedSimpArgs false

theorem lt_of_cell {w : World} {p : Addr} {v : Value} (h : w.cell? p = some v) : p.block < w.heap.size := by
  unfold World.cell? at h
  split at h
  · rename_i hh; exact (Array.getElem?_eq_some_iff.1 hh).1
  · cases h

/-- What is known of a slice that came in. -/
def Holds (w : World) (a : Option Addr) (len : Nat) (f : Nat → Value) : Prop := ∀ i, i < len → ∃ b off, a = some ⟨b, off, none⟩ ∧ w.cell? ⟨b, off + i, none⟩ = some (f i)

theorem Holds.below {w w' : World} {a : Option Addr} {len : Nat} {f : Nat → Value} (h : Holds w a len f) {B : Nat} (hb : Below B w w') (hB : w.heap.size ≤ B) : Holds w' a len f := by
  intro i hi
  obtain ⟨b, off, ha, hc⟩ := h i hi
  exact ⟨b, off, ha, by rw [hb.cell (Nat.lt_of_lt_of_le (lt_of_cell hc) hB), hc]⟩

theorem info26 : (Yba.prog.info? 26).map (fun i => (i.zero, i.size, i.bytes)) = some (some (.int .u8 0), 1, 1) := by kernel_rfl

theorem info31 : (Yba.prog.info? 31).map (fun i => (i.zero, i.size, i.bytes)) = some (some (.agg #[.bool false, .bool false, .bool false, .bool false, .bool false, .int .i64 0, .int .i64 0, .int .i64 0, .int .i64 0, .int .i64 0, .int .i64 0, .int .i64 0, .int .i64 0]), 13, 72) := by kernel_rfl

/-- make([]possibleKey, n+1). -/
theorem make_keys (n : Nat) (hn : n ≤ 1024) (w : World) : (Instr.makeSlice 27 (.int .i64 ((n : Int) + 1)) (.int .i64 ((n : Int) + 1))).run Yba.prog w =
    .ok (.slice (some ⟨w.heap.size, 0, none⟩) (n + 1) (n + 1)) (w.alloc (.cells (madeCells #[.bool false, .bool false, .bool false, .bool false, .bool false, .int .i64 0, .int .i64 0, .int .i64 0, .int .i64 0, .int .i64 0, .int .i64 0, .int .i64 0, .int .i64 0] ((n + 1) * 13)) 31)) := by
  obtain ⟨i, hi, hz, hs, hb⟩ := info_parts info31
  have hr := run_make (P := Yba.prog) w 27 31 i _ Yba.underlying27 hi hz .i64 .i64 ((n : Int) + 1) ((n : Int) + 1) (by omega) (Int.le_refl _) (by rw [hb]; omega) (by omega)
  rw [hs] at hr
  rw [show ((n : Int) + 1).toNat = n + 1 from by omega] at hr
  exact hr

/-- The keys' block: k of its n + 1 keys are filled. -/
structure Keys (w : World) (kb n k : Nat) : Prop where
  there : ∀ i j, i ≤ n → j < 13 → ∃ v, w.cell? ⟨kb, i * 13 + j, none⟩ = some v
  frz : ∀ o, w.frozen? ⟨kb, o, none⟩ = false
  done : ∀ i, i < k → i ≤ n → w.rangeAt kb (i * 13) (prevKey i)

theorem Keys.made (w : World) (n : Nat) (z : Array Value) : Keys (w.alloc (.cells (madeCells z ((n + 1) * 13)) 31)) w.heap.size n 0 where
  there i j hi hj := by
    rw [World.cell?_alloc_new]
    have : i * 13 + j < (madeCells z ((n + 1) * 13)).size := by rw [size_madeCells]; omega
    exact ⟨_, Array.getElem?_eq_getElem this⟩
  frz o := World.frozen?_alloc_new _ _ _ _
  done i hi := by omega

theorem Keys.alloc {w : World} {kb n k : Nat} (h : Keys w kb n k) (o : Obj) : Keys (w.alloc o) kb n k := by
  obtain ⟨v, hv⟩ := h.there 0 0 (Nat.zero_le _) (by omega)
  have hl : kb < w.heap.size := lt_of_cell hv
  refine ⟨fun i j hi hj => ?_, fun o' => ?_, fun i hi hi' j v hv => ?_⟩
  · rw [World.cell?_alloc_past _ _ _ hl]; exact h.there i j hi hj
  · rw [World.frozen?_alloc_past _ _ _ hl]; exact h.frz o'
  · rw [World.cell?_alloc_past _ _ _ hl]; exact h.done i hi hi' j v hv

theorem Keys.below {w w' : World} {kb n k : Nat} (h : Keys w kb n k) {B : Nat} (hb : Below B w w') (hB : kb < B) : Keys w' kb n k :=
  ⟨fun i j hi hj => by rw [hb.cell hB]; exact h.there i j hi hj, fun o => by rw [hb.frozen hB]; exact h.frz o, fun i hi hi' j v hv => by rw [hb.cell hB]; exact h.done i hi hi' j v hv⟩

/-- One key more. -/
theorem Keys.step {w w' : World} {kb n k : Nat} (h : Keys w kb n k) (hF : Fr kb (fun o => k * 13 ≤ o ∧ o < k * 13 + 13) w w') (hk : w'.rangeAt kb (k * 13) (prevKey k)) : Keys w' kb n (k + 1) where
  there i j hi hj := by obtain ⟨v, hv⟩ := h.there i j hi hj; exact hF.som _ v hv
  frz o := by rw [hF.frz]; exact h.frz o
  done i hi hi' := by
    by_cases e : i = k
    · subst e; exact hk
    · intro j v hv
      have hj : j < 13 := (List.getElem?_eq_some_iff.1 hv).1
      rw [hF.cel _ (by omega)]
      exact h.done i (by omega) hi' j v hv

/-- The kind of a flow collection. -/
def fkind (z : Int) : Int := if z % 2 = 1 then 10 else 8

/-- The input as it is boxed. -/
abbrev inC (ka : Bool) (ind col line offs : Int) (af : Bool) (ta tb tc tk ql hd0 ch lo : Int) (fl : Value) : Array Value :=
  #[.bool ka, .int .i64 ind, .int .i64 col, .int .i64 line, .int .i64 offs, .bool af, .int .i64 ta, .int .i64 tb, .int .i64 tc, .int .i64 tk, .int .u8 ql, .int .u8 hd0, .int .i64 ch, .int .i64 lo, fl]

/-- The last key as the law wants it. -/
def lastKey (ka : Bool) (ind col : Int) (af : Bool) (num ch offs line ta tb tc : Int) (k : Nat) (odd : Bool) : List Value :=
  if ka then newKey (ind == col) (decide (0 < k) && odd) af num ch offs line col ta tb tc else prevKey k

/-- What the law looks at behind saveKey. -/
structure Aft (w : World) (mb sb kb k : Nat) (ka : Bool) (offs line col ta tb tc low : Int) (last : List Value) : Prop where
  m0 : w.cell? ⟨mb, 0, none⟩ = some (.int .i64 offs)
  m1 : w.cell? ⟨mb, 1, none⟩ = some (.int .i64 line)
  m2 : w.cell? ⟨mb, 2, none⟩ = some (.int .i64 col)
  t0 : w.cell? ⟨mb + 1, 0, none⟩ = some (.int .i64 ta)
  t1 : w.cell? ⟨mb + 1, 1, none⟩ = some (.int .i64 tb)
  t2 : w.cell? ⟨mb + 1, 2, none⟩ = some (.int .i64 tc)
  c30 : w.cell? ⟨sb, 30, none⟩ = some (.slice (some ⟨kb, 0, none⟩) (k + 1) (k + 1))
  c31 : w.cell? ⟨sb, 31, none⟩ = some (.int .i64 low)
  c32 : w.cell? ⟨sb, 32, none⟩ = some (.bool ka)
  old : ∀ i, i < k → w.rangeAt kb (i * 13) (prevKey i)
  last : w.rangeAt kb (k * 13) last

theorem cell_below {w w' : World} {B : Nat} {p : Addr} {v : Value} (h : w.cell? p = some v) (hb : Below B w w') (hB : w.heap.size ≤ B) : w'.cell? p = some v := by
  rw [hb.cell (Nat.lt_of_lt_of_le (lt_of_cell h) hB), h]

theorem Aft.below {w w' : World} {mb sb kb k : Nat} {ka : Bool} {offs line col ta tb tc low : Int} {last : List Value} (h : Aft w mb sb kb k ka offs line col ta tb tc low last) {B : Nat} (hb : Below B w w') (hB : w.heap.size ≤ B) :
    Aft w' mb sb kb k ka offs line col ta tb tc low last :=
  ⟨cell_below h.m0 hb hB, cell_below h.m1 hb hB, cell_below h.m2 hb hB, cell_below h.t0 hb hB, cell_below h.t1 hb hB, cell_below h.t2 hb hB, cell_below h.c30 hb hB, cell_below h.c31 hb hB, cell_below h.c32 hb hB,
    fun i hi j v hv => cell_below (h.old i hi j v hv) hb hB, fun j v hv => cell_below (h.last j v hv) hb hB⟩

theorem fkind_ten (z : Int) : (fkind z == 10) = (z % 2 == 1) := by
  unfold fkind
  by_cases h : z % 2 = 1 <;> simp [h]

/-- A key's thirteen cells, one by one. -/
theorem range13 {w : World} {kb o : Nat} {b0 b1 b2 b3 b4 : Bool} {i0 i1 i2 i3 i4 i5 i6 i7 : Int} (h : w.rangeAt kb o [.bool b0, .bool b1, .bool b2, .bool b3, .bool b4, .int .i64 i0, .int .i64 i1, .int .i64 i2, .int .i64 i3, .int .i64 i4, .int .i64 i5, .int .i64 i6, .int .i64 i7]) :
    w.cell? ⟨kb, o, none⟩ = some (.bool b0) ∧ w.cell? ⟨kb, o + 1, none⟩ = some (.bool b1) ∧ w.cell? ⟨kb, o + 2, none⟩ = some (.bool b2) ∧ w.cell? ⟨kb, o + 3, none⟩ = some (.bool b3) ∧ w.cell? ⟨kb, o + 4, none⟩ = some (.bool b4) ∧
    w.cell? ⟨kb, o + 5, none⟩ = some (.int .i64 i0) ∧ w.cell? ⟨kb, o + 6, none⟩ = some (.int .i64 i1) ∧ w.cell? ⟨kb, o + 7, none⟩ = some (.int .i64 i2) ∧ w.cell? ⟨kb, o + 8, none⟩ = some (.int .i64 i3) ∧ w.cell? ⟨kb, o + 9, none⟩ = some (.int .i64 i4) ∧
    w.cell? ⟨kb, o + 10, none⟩ = some (.int .i64 i5) ∧ w.cell? ⟨kb, o + 11, none⟩ = some (.int .i64 i6) ∧ w.cell? ⟨kb, o + 12, none⟩ = some (.int .i64 i7) :=
  ⟨h 0 _ rfl, h 1 _ rfl, h 2 _ rfl, h 3 _ rfl, h 4 _ rfl, h 5 _ rfl, h 6 _ rfl, h 7 _ rfl, h 8 _ rfl, h 9 _ rfl, h 10 _ rfl, h 11 _ rfl, h 12 _ rfl⟩

theorem prev_any' (i : Nat) (hi : i ≤ 1024) (w : World) :
    Calls Yba.prog 6 #[.int .i64 i] w fun e w' => e = .returned (.agg (key13 false false false true false i (-(i : Int)) 0 0 0 0 0 0)) ∧ w' = w.alloc (.cells (key13 false false false true false i (-(i : Int)) 0 0 0 0 0 0) 31) := prev_any i hi w

theorem eqg31 : Yba.prog.eqGuardType Yba.prog.depth 31 = false := by kernel_rfl

/-- What stands behind the first n statements. -/
def dropS : Nat → Code → Option Code
  | 0, c => some c
  | n + 1, .seq _ b => dropS n b
  | _, _ => none

/-- What the law is to come to. -/
abbrev Fin (w : World) : Exit → Act → World → Prop := bodyPost Yba.prog Yba.f3 fun e w' => e = .returned (.bool true) ∧ Below w.heap.size w w'

end Go.Proofs.Ybulkaakm.Save
