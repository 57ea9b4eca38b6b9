/-
  LawS1325ASave: THE SCANNER AS IT IS MADE.
-/
import Derived.Test.YbulkaakmSaveS
namespace Go.Proofs.Ybulkaakm.Save
open Go.RowKit
set_option linter.unusedSimpArgs false

set_option maxHeartbeats 1000000 in
theorem sc_made (W : World) (sb : Nat) (hsb : sb = W.heap.size) (ka : Bool) (ind : Int) (af : Bool) (ta tb tc tk : Int) (qa : Option Addr) (q : Nat) (hd : Int) (fl ke : Value) (lo : Int) :
    Sc (W.alloc (.cells ((((((((((((zc62.setIfInBounds 32 (.bool ka)).setIfInBounds 25 (.int .i64 ind)).setIfInBounds 33 (.bool af)).setIfInBounds 34 (.int .i64 ta)).setIfInBounds 35 (.int .i64 tb)).setIfInBounds 36 (.int .i64 tc)).setIfInBounds 21 (.int .i64 tk)).setIfInBounds 19 (.slice qa q q)).setIfInBounds 20 (.int .i64 hd)).setIfInBounds 29 fl).setIfInBounds 30 ke).setIfInBounds 31 (.int .i64 lo)) 62))
      sb ka ind af ta tb tc tk qa q hd fl ke lo := by
  subst hsb
  obtain ⟨z8, z9, z10, z11⟩ := zc_cells
  refine ⟨⟨.int .i64 0, ?_⟩, ⟨.int .i64 0, ?_⟩, ⟨.int .i64 0, ?_⟩, ⟨.int .i64 0, ?_⟩, ?_, ?_, ?_, ?_, ?_, ?_, ?_, ?_, ?_, ?_, ?_, ?_, fun o => World.frozen?_alloc_new _ _ _ _⟩
  all_goals
    rw [World.cell?_alloc_new]
    simp [Array.getElem?_setIfInBounds, zc_size]
  · exact Option.some.inj ((Array.getElem?_eq_getElem _).symm.trans z8)
  · exact Option.some.inj ((Array.getElem?_eq_getElem _).symm.trans z9)
  · exact Option.some.inj ((Array.getElem?_eq_getElem _).symm.trans z10)
  · exact Option.some.inj ((Array.getElem?_eq_getElem _).symm.trans z11)

theorem Sc.drew {w : World} {sb : Nat} {ka : Bool} {ind : Int} {af : Bool} {ta tb tc tk : Int} {qa : Option Addr} {q : Nat} {hd : Int} {fl ke : Value} {lo : Int} (h : Sc w sb ka ind af ta tb tc tk qa q hd fl ke lo) : Sc w.drew sb ka ind af ta tb tc tk qa q hd fl ke lo :=
  ⟨h.c8, h.c9, h.c10, h.c11, h.c19, h.c20, h.c21, h.c25, h.c29, h.c30, h.c31, h.c32, h.c33, h.c34, h.c35, h.c36, h.frz⟩

end Go.Proofs.Ybulkaakm.Save
