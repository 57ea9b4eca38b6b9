/-
  LawS1325ASave: REGION 39, where the last key is filled.
-/
import Derived.Test.YbulkaakmSaveC
import Derived.Test.YbulkaakmSaveS
import Derived.Test.YbulkaakmSaveE
import Derived.Test.YbulkaakmSaveM
import Derived.Deep.OwnRows
import Derived.Laws.StructEq
import Derived.Deep.RegionHeld3
namespace Go.Proofs.Ybulkaakm.Save
open Go.RowKit
set_option linter.unusedSimpArgs false
set_option linter.unusedVariables false

/-- The operations of the region of that number. -/
def findR (n : Nat) : Code → Option (Array Oper)
  | .region id ops _ => if id = n then some ops else none
  | .seq a b => match findR n a with | some r => some r | none => findR n b
  | .cond _ a b => match findR n a with | some r => some r | none => findR n b
  | .block _ b => findR n b
  | .loop b => findR n b
  | .scope b => findR n b
  | _ => none

set_option maxHeartbeats 1000000 in
/-- Thirteen cells are stored, one behind the other. -/
theorem set13 (w : World) (kb o : Nat) (v0 v1 v2 v3 v4 v5 v6 v7 v8 v9 v10 v11 v12 : Value) (hk : ∀ j, j < 13 → ∃ v, w.cell? ⟨kb, o + j, none⟩ = some v) :
    Fr kb (fun x => o ≤ x ∧ x < o + 13) w (((((((((((((w.setCell ⟨kb, o, none⟩ v0).setCell ⟨kb, o + 1, none⟩ v1).setCell ⟨kb, o + 2, none⟩ v2).setCell ⟨kb, o + 3, none⟩ v3).setCell ⟨kb, o + 4, none⟩ v4).setCell ⟨kb, o + 5, none⟩ v5).setCell ⟨kb, o + 6, none⟩ v6).setCell ⟨kb, o + 7, none⟩ v7).setCell ⟨kb, o + 8, none⟩ v8).setCell ⟨kb, o + 9, none⟩ v9).setCell ⟨kb, o + 10, none⟩ v10).setCell ⟨kb, o + 11, none⟩ v11).setCell ⟨kb, o + 12, none⟩ v12) ∧
    World.rangeAt (((((((((((((w.setCell ⟨kb, o, none⟩ v0).setCell ⟨kb, o + 1, none⟩ v1).setCell ⟨kb, o + 2, none⟩ v2).setCell ⟨kb, o + 3, none⟩ v3).setCell ⟨kb, o + 4, none⟩ v4).setCell ⟨kb, o + 5, none⟩ v5).setCell ⟨kb, o + 6, none⟩ v6).setCell ⟨kb, o + 7, none⟩ v7).setCell ⟨kb, o + 8, none⟩ v8).setCell ⟨kb, o + 9, none⟩ v9).setCell ⟨kb, o + 10, none⟩ v10).setCell ⟨kb, o + 11, none⟩ v11).setCell ⟨kb, o + 12, none⟩ v12) kb o [v0, v1, v2, v3, v4, v5, v6, v7, v8, v9, v10, v11, v12] := by
  constructor
  · repeat (first | with_reducible refine Fr.set ?_ _ _ (by omega) | with_reducible exact Fr.refl _ _ _)
  · intro j v hv
    have hj : j < 13 := (List.getElem?_eq_some_iff.1 hv).1
    obtain ⟨x0, k0⟩ := hk 0 (by omega)
    obtain ⟨x1, k1⟩ := hk 1 (by omega)
    obtain ⟨x2, k2⟩ := hk 2 (by omega)
    obtain ⟨x3, k3⟩ := hk 3 (by omega)
    obtain ⟨x4, k4⟩ := hk 4 (by omega)
    obtain ⟨x5, k5⟩ := hk 5 (by omega)
    obtain ⟨x6, k6⟩ := hk 6 (by omega)
    obtain ⟨x7, k7⟩ := hk 7 (by omega)
    obtain ⟨x8, k8⟩ := hk 8 (by omega)
    obtain ⟨x9, k9⟩ := hk 9 (by omega)
    obtain ⟨x10, k10⟩ := hk 10 (by omega)
    obtain ⟨x11, k11⟩ := hk 11 (by omega)
    obtain ⟨x12, k12⟩ := hk 12 (by omega)
    rw [Nat.add_zero] at k0
    match j, hj with
    | 0, _ => cases hv; simp [go_sem, k0, k1, k2, k3, k4, k5, k6, k7, k8, k9, k10, k11, k12]
    | 1, _ => cases hv; simp [go_sem, k0, k1, k2, k3, k4, k5, k6, k7, k8, k9, k10, k11, k12]
    | 2, _ => cases hv; simp [go_sem, k0, k1, k2, k3, k4, k5, k6, k7, k8, k9, k10, k11, k12]
    | 3, _ => cases hv; simp [go_sem, k0, k1, k2, k3, k4, k5, k6, k7, k8, k9, k10, k11, k12]
    | 4, _ => cases hv; simp [go_sem, k0, k1, k2, k3, k4, k5, k6, k7, k8, k9, k10, k11, k12]
    | 5, _ => cases hv; simp [go_sem, k0, k1, k2, k3, k4, k5, k6, k7, k8, k9, k10, k11, k12]
    | 6, _ => cases hv; simp [go_sem, k0, k1, k2, k3, k4, k5, k6, k7, k8, k9, k10, k11, k12]
    | 7, _ => cases hv; simp [go_sem, k0, k1, k2, k3, k4, k5, k6, k7, k8, k9, k10, k11, k12]
    | 8, _ => cases hv; simp [go_sem, k0, k1, k2, k3, k4, k5, k6, k7, k8, k9, k10, k11, k12]
    | 9, _ => cases hv; simp [go_sem, k0, k1, k2, k3, k4, k5, k6, k7, k8, k9, k10, k11, k12]
    | 10, _ => cases hv; simp [go_sem, k0, k1, k2, k3, k4, k5, k6, k7, k8, k9, k10, k11, k12]
    | 11, _ => cases hv; simp [go_sem, k0, k1, k2, k3, k4, k5, k6, k7, k8, k9, k10, k11, k12]
    | 12, _ => cases hv; simp [go_sem, k0, k1, k2, k3, k4, k5, k6, k7, k8, k9, k10, k11, k12]

theorem Fr.below {b B : Nat} {S : Nat → Prop} {w wx : World} (h : Fr b S w wx) (hB : B ≤ b) : Below B w wx :=
  ⟨h.os, h.tape, h.output, by rw [h.size]; exact Nat.le_refl _, fun k hk => h.blk k (by omega)⟩

theorem cell_drew (w : World) (a : Addr) : w.drew.cell? a = w.cell? a := rfl

theorem size_drew (w : World) : w.drew.heap.size = w.heap.size := rfl

theorem take0 {P : Program} {md : Region.Mode} {Q : Exit → Act → World → Prop} {S : World → Prop} {o0 : Oper} {os : List Oper} {v : Value} {fuel : Nat} {listed : Array Bool} {a : Act} {w : World}
    (hs : Region.noSelect (List.toArray (o0 :: os)) = true) (hf : Region.free md (List.toArray (o0 :: os)) listed 0 = true) (hr : (Region.ready md (List.toArray (o0 :: os)) listed).contains 0 = true)
    (hQ : ∀ c a w, Q (.panic c) (a.put o0.dst v) w → Q (.panic c) a w) (hy : YieldsIf P (List.toArray (o0 :: os)) S o0 v a) (hS : S w)
    (h : wpAnyH P md (List.toArray (o0 :: os)) Q S fuel (listed.setIfInBounds 0 true) (a.put o0.dst v) w) : wpAnyH P md (List.toArray (o0 :: os)) Q S (fuel + 1) listed a w :=
  wpAnyH_take (i := 0) (oi := o0) rfl hs hf hr hQ hy hS h

theorem take1 {P : Program} {md : Region.Mode} {Q : Exit → Act → World → Prop} {S : World → Prop} {o0 o1 : Oper} {os : List Oper} {v : Value} {fuel : Nat} {listed : Array Bool} {a : Act} {w : World}
    (hs : Region.noSelect (List.toArray (o0 :: o1 :: os)) = true) (hf : Region.free md (List.toArray (o0 :: o1 :: os)) listed 1 = true) (hr : (Region.ready md (List.toArray (o0 :: o1 :: os)) listed).contains 1 = true)
    (hQ : ∀ c a w, Q (.panic c) (a.put o1.dst v) w → Q (.panic c) a w) (hy : YieldsIf P (List.toArray (o0 :: o1 :: os)) S o1 v a) (hS : S w)
    (h : wpAnyH P md (List.toArray (o0 :: o1 :: os)) Q S fuel (listed.setIfInBounds 1 true) (a.put o1.dst v) w) : wpAnyH P md (List.toArray (o0 :: o1 :: os)) Q S (fuel + 1) listed a w :=
  wpAnyH_take (i := 1) (oi := o1) rfl hs hf hr hQ hy hS h

theorem take2 {P : Program} {md : Region.Mode} {Q : Exit → Act → World → Prop} {S : World → Prop} {o0 o1 o2 : Oper} {os : List Oper} {v : Value} {fuel : Nat} {listed : Array Bool} {a : Act} {w : World}
    (hs : Region.noSelect (List.toArray (o0 :: o1 :: o2 :: os)) = true) (hf : Region.free md (List.toArray (o0 :: o1 :: o2 :: os)) listed 2 = true) (hr : (Region.ready md (List.toArray (o0 :: o1 :: o2 :: os)) listed).contains 2 = true)
    (hQ : ∀ c a w, Q (.panic c) (a.put o2.dst v) w → Q (.panic c) a w) (hy : YieldsIf P (List.toArray (o0 :: o1 :: o2 :: os)) S o2 v a) (hS : S w)
    (h : wpAnyH P md (List.toArray (o0 :: o1 :: o2 :: os)) Q S fuel (listed.setIfInBounds 2 true) (a.put o2.dst v) w) : wpAnyH P md (List.toArray (o0 :: o1 :: o2 :: os)) Q S (fuel + 1) listed a w :=
  wpAnyH_take (i := 2) (oi := o2) rfl hs hf hr hQ hy hS h

theorem take3 {P : Program} {md : Region.Mode} {Q : Exit → Act → World → Prop} {S : World → Prop} {o0 o1 o2 o3 : Oper} {os : List Oper} {v : Value} {fuel : Nat} {listed : Array Bool} {a : Act} {w : World}
    (hs : Region.noSelect (List.toArray (o0 :: o1 :: o2 :: o3 :: os)) = true) (hf : Region.free md (List.toArray (o0 :: o1 :: o2 :: o3 :: os)) listed 3 = true) (hr : (Region.ready md (List.toArray (o0 :: o1 :: o2 :: o3 :: os)) listed).contains 3 = true)
    (hQ : ∀ c a w, Q (.panic c) (a.put o3.dst v) w → Q (.panic c) a w) (hy : YieldsIf P (List.toArray (o0 :: o1 :: o2 :: o3 :: os)) S o3 v a) (hS : S w)
    (h : wpAnyH P md (List.toArray (o0 :: o1 :: o2 :: o3 :: os)) Q S fuel (listed.setIfInBounds 3 true) (a.put o3.dst v) w) : wpAnyH P md (List.toArray (o0 :: o1 :: o2 :: o3 :: os)) Q S (fuel + 1) listed a w :=
  wpAnyH_take (i := 3) (oi := o3) rfl hs hf hr hQ hy hS h

theorem take4 {P : Program} {md : Region.Mode} {Q : Exit → Act → World → Prop} {S : World → Prop} {o0 o1 o2 o3 o4 : Oper} {os : List Oper} {v : Value} {fuel : Nat} {listed : Array Bool} {a : Act} {w : World}
    (hs : Region.noSelect (List.toArray (o0 :: o1 :: o2 :: o3 :: o4 :: os)) = true) (hf : Region.free md (List.toArray (o0 :: o1 :: o2 :: o3 :: o4 :: os)) listed 4 = true) (hr : (Region.ready md (List.toArray (o0 :: o1 :: o2 :: o3 :: o4 :: os)) listed).contains 4 = true)
    (hQ : ∀ c a w, Q (.panic c) (a.put o4.dst v) w → Q (.panic c) a w) (hy : YieldsIf P (List.toArray (o0 :: o1 :: o2 :: o3 :: o4 :: os)) S o4 v a) (hS : S w)
    (h : wpAnyH P md (List.toArray (o0 :: o1 :: o2 :: o3 :: o4 :: os)) Q S fuel (listed.setIfInBounds 4 true) (a.put o4.dst v) w) : wpAnyH P md (List.toArray (o0 :: o1 :: o2 :: o3 :: o4 :: os)) Q S (fuel + 1) listed a w :=
  wpAnyH_take (i := 4) (oi := o4) rfl hs hf hr hQ hy hS h

theorem take5 {P : Program} {md : Region.Mode} {Q : Exit → Act → World → Prop} {S : World → Prop} {o0 o1 o2 o3 o4 o5 : Oper} {os : List Oper} {v : Value} {fuel : Nat} {listed : Array Bool} {a : Act} {w : World}
    (hs : Region.noSelect (List.toArray (o0 :: o1 :: o2 :: o3 :: o4 :: o5 :: os)) = true) (hf : Region.free md (List.toArray (o0 :: o1 :: o2 :: o3 :: o4 :: o5 :: os)) listed 5 = true) (hr : (Region.ready md (List.toArray (o0 :: o1 :: o2 :: o3 :: o4 :: o5 :: os)) listed).contains 5 = true)
    (hQ : ∀ c a w, Q (.panic c) (a.put o5.dst v) w → Q (.panic c) a w) (hy : YieldsIf P (List.toArray (o0 :: o1 :: o2 :: o3 :: o4 :: o5 :: os)) S o5 v a) (hS : S w)
    (h : wpAnyH P md (List.toArray (o0 :: o1 :: o2 :: o3 :: o4 :: o5 :: os)) Q S fuel (listed.setIfInBounds 5 true) (a.put o5.dst v) w) : wpAnyH P md (List.toArray (o0 :: o1 :: o2 :: o3 :: o4 :: o5 :: os)) Q S (fuel + 1) listed a w :=
  wpAnyH_take (i := 5) (oi := o5) rfl hs hf hr hQ hy hS h

theorem take6 {P : Program} {md : Region.Mode} {Q : Exit → Act → World → Prop} {S : World → Prop} {o0 o1 o2 o3 o4 o5 o6 : Oper} {os : List Oper} {v : Value} {fuel : Nat} {listed : Array Bool} {a : Act} {w : World}
    (hs : Region.noSelect (List.toArray (o0 :: o1 :: o2 :: o3 :: o4 :: o5 :: o6 :: os)) = true) (hf : Region.free md (List.toArray (o0 :: o1 :: o2 :: o3 :: o4 :: o5 :: o6 :: os)) listed 6 = true) (hr : (Region.ready md (List.toArray (o0 :: o1 :: o2 :: o3 :: o4 :: o5 :: o6 :: os)) listed).contains 6 = true)
    (hQ : ∀ c a w, Q (.panic c) (a.put o6.dst v) w → Q (.panic c) a w) (hy : YieldsIf P (List.toArray (o0 :: o1 :: o2 :: o3 :: o4 :: o5 :: o6 :: os)) S o6 v a) (hS : S w)
    (h : wpAnyH P md (List.toArray (o0 :: o1 :: o2 :: o3 :: o4 :: o5 :: o6 :: os)) Q S fuel (listed.setIfInBounds 6 true) (a.put o6.dst v) w) : wpAnyH P md (List.toArray (o0 :: o1 :: o2 :: o3 :: o4 :: o5 :: o6 :: os)) Q S (fuel + 1) listed a w :=
  wpAnyH_take (i := 6) (oi := o6) rfl hs hf hr hQ hy hS h

theorem take7 {P : Program} {md : Region.Mode} {Q : Exit → Act → World → Prop} {S : World → Prop} {o0 o1 o2 o3 o4 o5 o6 o7 : Oper} {os : List Oper} {v : Value} {fuel : Nat} {listed : Array Bool} {a : Act} {w : World}
    (hs : Region.noSelect (List.toArray (o0 :: o1 :: o2 :: o3 :: o4 :: o5 :: o6 :: o7 :: os)) = true) (hf : Region.free md (List.toArray (o0 :: o1 :: o2 :: o3 :: o4 :: o5 :: o6 :: o7 :: os)) listed 7 = true) (hr : (Region.ready md (List.toArray (o0 :: o1 :: o2 :: o3 :: o4 :: o5 :: o6 :: o7 :: os)) listed).contains 7 = true)
    (hQ : ∀ c a w, Q (.panic c) (a.put o7.dst v) w → Q (.panic c) a w) (hy : YieldsIf P (List.toArray (o0 :: o1 :: o2 :: o3 :: o4 :: o5 :: o6 :: o7 :: os)) S o7 v a) (hS : S w)
    (h : wpAnyH P md (List.toArray (o0 :: o1 :: o2 :: o3 :: o4 :: o5 :: o6 :: o7 :: os)) Q S fuel (listed.setIfInBounds 7 true) (a.put o7.dst v) w) : wpAnyH P md (List.toArray (o0 :: o1 :: o2 :: o3 :: o4 :: o5 :: o6 :: o7 :: os)) Q S (fuel + 1) listed a w :=
  wpAnyH_take (i := 7) (oi := o7) rfl hs hf hr hQ hy hS h

theorem take8 {P : Program} {md : Region.Mode} {Q : Exit → Act → World → Prop} {S : World → Prop} {o0 o1 o2 o3 o4 o5 o6 o7 o8 : Oper} {os : List Oper} {v : Value} {fuel : Nat} {listed : Array Bool} {a : Act} {w : World}
    (hs : Region.noSelect (List.toArray (o0 :: o1 :: o2 :: o3 :: o4 :: o5 :: o6 :: o7 :: o8 :: os)) = true) (hf : Region.free md (List.toArray (o0 :: o1 :: o2 :: o3 :: o4 :: o5 :: o6 :: o7 :: o8 :: os)) listed 8 = true) (hr : (Region.ready md (List.toArray (o0 :: o1 :: o2 :: o3 :: o4 :: o5 :: o6 :: o7 :: o8 :: os)) listed).contains 8 = true)
    (hQ : ∀ c a w, Q (.panic c) (a.put o8.dst v) w → Q (.panic c) a w) (hy : YieldsIf P (List.toArray (o0 :: o1 :: o2 :: o3 :: o4 :: o5 :: o6 :: o7 :: o8 :: os)) S o8 v a) (hS : S w)
    (h : wpAnyH P md (List.toArray (o0 :: o1 :: o2 :: o3 :: o4 :: o5 :: o6 :: o7 :: o8 :: os)) Q S fuel (listed.setIfInBounds 8 true) (a.put o8.dst v) w) : wpAnyH P md (List.toArray (o0 :: o1 :: o2 :: o3 :: o4 :: o5 :: o6 :: o7 :: o8 :: os)) Q S (fuel + 1) listed a w :=
  wpAnyH_take (i := 8) (oi := o8) rfl hs hf hr hQ hy hS h

theorem take9 {P : Program} {md : Region.Mode} {Q : Exit → Act → World → Prop} {S : World → Prop} {o0 o1 o2 o3 o4 o5 o6 o7 o8 o9 : Oper} {os : List Oper} {v : Value} {fuel : Nat} {listed : Array Bool} {a : Act} {w : World}
    (hs : Region.noSelect (List.toArray (o0 :: o1 :: o2 :: o3 :: o4 :: o5 :: o6 :: o7 :: o8 :: o9 :: os)) = true) (hf : Region.free md (List.toArray (o0 :: o1 :: o2 :: o3 :: o4 :: o5 :: o6 :: o7 :: o8 :: o9 :: os)) listed 9 = true) (hr : (Region.ready md (List.toArray (o0 :: o1 :: o2 :: o3 :: o4 :: o5 :: o6 :: o7 :: o8 :: o9 :: os)) listed).contains 9 = true)
    (hQ : ∀ c a w, Q (.panic c) (a.put o9.dst v) w → Q (.panic c) a w) (hy : YieldsIf P (List.toArray (o0 :: o1 :: o2 :: o3 :: o4 :: o5 :: o6 :: o7 :: o8 :: o9 :: os)) S o9 v a) (hS : S w)
    (h : wpAnyH P md (List.toArray (o0 :: o1 :: o2 :: o3 :: o4 :: o5 :: o6 :: o7 :: o8 :: o9 :: os)) Q S fuel (listed.setIfInBounds 9 true) (a.put o9.dst v) w) : wpAnyH P md (List.toArray (o0 :: o1 :: o2 :: o3 :: o4 :: o5 :: o6 :: o7 :: o8 :: o9 :: os)) Q S (fuel + 1) listed a w :=
  wpAnyH_take (i := 9) (oi := o9) rfl hs hf hr hQ hy hS h

theorem take10 {P : Program} {md : Region.Mode} {Q : Exit → Act → World → Prop} {S : World → Prop} {o0 o1 o2 o3 o4 o5 o6 o7 o8 o9 o10 : Oper} {os : List Oper} {v : Value} {fuel : Nat} {listed : Array Bool} {a : Act} {w : World}
    (hs : Region.noSelect (List.toArray (o0 :: o1 :: o2 :: o3 :: o4 :: o5 :: o6 :: o7 :: o8 :: o9 :: o10 :: os)) = true) (hf : Region.free md (List.toArray (o0 :: o1 :: o2 :: o3 :: o4 :: o5 :: o6 :: o7 :: o8 :: o9 :: o10 :: os)) listed 10 = true) (hr : (Region.ready md (List.toArray (o0 :: o1 :: o2 :: o3 :: o4 :: o5 :: o6 :: o7 :: o8 :: o9 :: o10 :: os)) listed).contains 10 = true)
    (hQ : ∀ c a w, Q (.panic c) (a.put o10.dst v) w → Q (.panic c) a w) (hy : YieldsIf P (List.toArray (o0 :: o1 :: o2 :: o3 :: o4 :: o5 :: o6 :: o7 :: o8 :: o9 :: o10 :: os)) S o10 v a) (hS : S w)
    (h : wpAnyH P md (List.toArray (o0 :: o1 :: o2 :: o3 :: o4 :: o5 :: o6 :: o7 :: o8 :: o9 :: o10 :: os)) Q S fuel (listed.setIfInBounds 10 true) (a.put o10.dst v) w) : wpAnyH P md (List.toArray (o0 :: o1 :: o2 :: o3 :: o4 :: o5 :: o6 :: o7 :: o8 :: o9 :: o10 :: os)) Q S (fuel + 1) listed a w :=
  wpAnyH_take (i := 10) (oi := o10) rfl hs hf hr hQ hy hS h

theorem take11 {P : Program} {md : Region.Mode} {Q : Exit → Act → World → Prop} {S : World → Prop} {o0 o1 o2 o3 o4 o5 o6 o7 o8 o9 o10 o11 : Oper} {os : List Oper} {v : Value} {fuel : Nat} {listed : Array Bool} {a : Act} {w : World}
    (hs : Region.noSelect (List.toArray (o0 :: o1 :: o2 :: o3 :: o4 :: o5 :: o6 :: o7 :: o8 :: o9 :: o10 :: o11 :: os)) = true) (hf : Region.free md (List.toArray (o0 :: o1 :: o2 :: o3 :: o4 :: o5 :: o6 :: o7 :: o8 :: o9 :: o10 :: o11 :: os)) listed 11 = true) (hr : (Region.ready md (List.toArray (o0 :: o1 :: o2 :: o3 :: o4 :: o5 :: o6 :: o7 :: o8 :: o9 :: o10 :: o11 :: os)) listed).contains 11 = true)
    (hQ : ∀ c a w, Q (.panic c) (a.put o11.dst v) w → Q (.panic c) a w) (hy : YieldsIf P (List.toArray (o0 :: o1 :: o2 :: o3 :: o4 :: o5 :: o6 :: o7 :: o8 :: o9 :: o10 :: o11 :: os)) S o11 v a) (hS : S w)
    (h : wpAnyH P md (List.toArray (o0 :: o1 :: o2 :: o3 :: o4 :: o5 :: o6 :: o7 :: o8 :: o9 :: o10 :: o11 :: os)) Q S fuel (listed.setIfInBounds 11 true) (a.put o11.dst v) w) : wpAnyH P md (List.toArray (o0 :: o1 :: o2 :: o3 :: o4 :: o5 :: o6 :: o7 :: o8 :: o9 :: o10 :: o11 :: os)) Q S (fuel + 1) listed a w :=
  wpAnyH_take (i := 11) (oi := o11) rfl hs hf hr hQ hy hS h

theorem take12 {P : Program} {md : Region.Mode} {Q : Exit → Act → World → Prop} {S : World → Prop} {o0 o1 o2 o3 o4 o5 o6 o7 o8 o9 o10 o11 o12 : Oper} {os : List Oper} {v : Value} {fuel : Nat} {listed : Array Bool} {a : Act} {w : World}
    (hs : Region.noSelect (List.toArray (o0 :: o1 :: o2 :: o3 :: o4 :: o5 :: o6 :: o7 :: o8 :: o9 :: o10 :: o11 :: o12 :: os)) = true) (hf : Region.free md (List.toArray (o0 :: o1 :: o2 :: o3 :: o4 :: o5 :: o6 :: o7 :: o8 :: o9 :: o10 :: o11 :: o12 :: os)) listed 12 = true) (hr : (Region.ready md (List.toArray (o0 :: o1 :: o2 :: o3 :: o4 :: o5 :: o6 :: o7 :: o8 :: o9 :: o10 :: o11 :: o12 :: os)) listed).contains 12 = true)
    (hQ : ∀ c a w, Q (.panic c) (a.put o12.dst v) w → Q (.panic c) a w) (hy : YieldsIf P (List.toArray (o0 :: o1 :: o2 :: o3 :: o4 :: o5 :: o6 :: o7 :: o8 :: o9 :: o10 :: o11 :: o12 :: os)) S o12 v a) (hS : S w)
    (h : wpAnyH P md (List.toArray (o0 :: o1 :: o2 :: o3 :: o4 :: o5 :: o6 :: o7 :: o8 :: o9 :: o10 :: o11 :: o12 :: os)) Q S fuel (listed.setIfInBounds 12 true) (a.put o12.dst v) w) : wpAnyH P md (List.toArray (o0 :: o1 :: o2 :: o3 :: o4 :: o5 :: o6 :: o7 :: o8 :: o9 :: o10 :: o11 :: o12 :: os)) Q S (fuel + 1) listed a w :=
  wpAnyH_take (i := 12) (oi := o12) rfl hs hf hr hQ hy hS h

theorem take13 {P : Program} {md : Region.Mode} {Q : Exit → Act → World → Prop} {S : World → Prop} {o0 o1 o2 o3 o4 o5 o6 o7 o8 o9 o10 o11 o12 o13 : Oper} {os : List Oper} {v : Value} {fuel : Nat} {listed : Array Bool} {a : Act} {w : World}
    (hs : Region.noSelect (List.toArray (o0 :: o1 :: o2 :: o3 :: o4 :: o5 :: o6 :: o7 :: o8 :: o9 :: o10 :: o11 :: o12 :: o13 :: os)) = true) (hf : Region.free md (List.toArray (o0 :: o1 :: o2 :: o3 :: o4 :: o5 :: o6 :: o7 :: o8 :: o9 :: o10 :: o11 :: o12 :: o13 :: os)) listed 13 = true) (hr : (Region.ready md (List.toArray (o0 :: o1 :: o2 :: o3 :: o4 :: o5 :: o6 :: o7 :: o8 :: o9 :: o10 :: o11 :: o12 :: o13 :: os)) listed).contains 13 = true)
    (hQ : ∀ c a w, Q (.panic c) (a.put o13.dst v) w → Q (.panic c) a w) (hy : YieldsIf P (List.toArray (o0 :: o1 :: o2 :: o3 :: o4 :: o5 :: o6 :: o7 :: o8 :: o9 :: o10 :: o11 :: o12 :: o13 :: os)) S o13 v a) (hS : S w)
    (h : wpAnyH P md (List.toArray (o0 :: o1 :: o2 :: o3 :: o4 :: o5 :: o6 :: o7 :: o8 :: o9 :: o10 :: o11 :: o12 :: o13 :: os)) Q S fuel (listed.setIfInBounds 13 true) (a.put o13.dst v) w) : wpAnyH P md (List.toArray (o0 :: o1 :: o2 :: o3 :: o4 :: o5 :: o6 :: o7 :: o8 :: o9 :: o10 :: o11 :: o12 :: o13 :: os)) Q S (fuel + 1) listed a w :=
  wpAnyH_take (i := 13) (oi := o13) rfl hs hf hr hQ hy hS h

theorem take14 {P : Program} {md : Region.Mode} {Q : Exit → Act → World → Prop} {S : World → Prop} {o0 o1 o2 o3 o4 o5 o6 o7 o8 o9 o10 o11 o12 o13 o14 : Oper} {os : List Oper} {v : Value} {fuel : Nat} {listed : Array Bool} {a : Act} {w : World}
    (hs : Region.noSelect (List.toArray (o0 :: o1 :: o2 :: o3 :: o4 :: o5 :: o6 :: o7 :: o8 :: o9 :: o10 :: o11 :: o12 :: o13 :: o14 :: os)) = true) (hf : Region.free md (List.toArray (o0 :: o1 :: o2 :: o3 :: o4 :: o5 :: o6 :: o7 :: o8 :: o9 :: o10 :: o11 :: o12 :: o13 :: o14 :: os)) listed 14 = true) (hr : (Region.ready md (List.toArray (o0 :: o1 :: o2 :: o3 :: o4 :: o5 :: o6 :: o7 :: o8 :: o9 :: o10 :: o11 :: o12 :: o13 :: o14 :: os)) listed).contains 14 = true)
    (hQ : ∀ c a w, Q (.panic c) (a.put o14.dst v) w → Q (.panic c) a w) (hy : YieldsIf P (List.toArray (o0 :: o1 :: o2 :: o3 :: o4 :: o5 :: o6 :: o7 :: o8 :: o9 :: o10 :: o11 :: o12 :: o13 :: o14 :: os)) S o14 v a) (hS : S w)
    (h : wpAnyH P md (List.toArray (o0 :: o1 :: o2 :: o3 :: o4 :: o5 :: o6 :: o7 :: o8 :: o9 :: o10 :: o11 :: o12 :: o13 :: o14 :: os)) Q S fuel (listed.setIfInBounds 14 true) (a.put o14.dst v) w) : wpAnyH P md (List.toArray (o0 :: o1 :: o2 :: o3 :: o4 :: o5 :: o6 :: o7 :: o8 :: o9 :: o10 :: o11 :: o12 :: o13 :: o14 :: os)) Q S (fuel + 1) listed a w :=
  wpAnyH_take (i := 14) (oi := o14) rfl hs hf hr hQ hy hS h

theorem take15 {P : Program} {md : Region.Mode} {Q : Exit → Act → World → Prop} {S : World → Prop} {o0 o1 o2 o3 o4 o5 o6 o7 o8 o9 o10 o11 o12 o13 o14 o15 : Oper} {os : List Oper} {v : Value} {fuel : Nat} {listed : Array Bool} {a : Act} {w : World}
    (hs : Region.noSelect (List.toArray (o0 :: o1 :: o2 :: o3 :: o4 :: o5 :: o6 :: o7 :: o8 :: o9 :: o10 :: o11 :: o12 :: o13 :: o14 :: o15 :: os)) = true) (hf : Region.free md (List.toArray (o0 :: o1 :: o2 :: o3 :: o4 :: o5 :: o6 :: o7 :: o8 :: o9 :: o10 :: o11 :: o12 :: o13 :: o14 :: o15 :: os)) listed 15 = true) (hr : (Region.ready md (List.toArray (o0 :: o1 :: o2 :: o3 :: o4 :: o5 :: o6 :: o7 :: o8 :: o9 :: o10 :: o11 :: o12 :: o13 :: o14 :: o15 :: os)) listed).contains 15 = true)
    (hQ : ∀ c a w, Q (.panic c) (a.put o15.dst v) w → Q (.panic c) a w) (hy : YieldsIf P (List.toArray (o0 :: o1 :: o2 :: o3 :: o4 :: o5 :: o6 :: o7 :: o8 :: o9 :: o10 :: o11 :: o12 :: o13 :: o14 :: o15 :: os)) S o15 v a) (hS : S w)
    (h : wpAnyH P md (List.toArray (o0 :: o1 :: o2 :: o3 :: o4 :: o5 :: o6 :: o7 :: o8 :: o9 :: o10 :: o11 :: o12 :: o13 :: o14 :: o15 :: os)) Q S fuel (listed.setIfInBounds 15 true) (a.put o15.dst v) w) : wpAnyH P md (List.toArray (o0 :: o1 :: o2 :: o3 :: o4 :: o5 :: o6 :: o7 :: o8 :: o9 :: o10 :: o11 :: o12 :: o13 :: o14 :: o15 :: os)) Q S (fuel + 1) listed a w :=
  wpAnyH_take (i := 15) (oi := o15) rfl hs hf hr hQ hy hS h

theorem take16 {P : Program} {md : Region.Mode} {Q : Exit → Act → World → Prop} {S : World → Prop} {o0 o1 o2 o3 o4 o5 o6 o7 o8 o9 o10 o11 o12 o13 o14 o15 o16 : Oper} {os : List Oper} {v : Value} {fuel : Nat} {listed : Array Bool} {a : Act} {w : World}
    (hs : Region.noSelect (List.toArray (o0 :: o1 :: o2 :: o3 :: o4 :: o5 :: o6 :: o7 :: o8 :: o9 :: o10 :: o11 :: o12 :: o13 :: o14 :: o15 :: o16 :: os)) = true) (hf : Region.free md (List.toArray (o0 :: o1 :: o2 :: o3 :: o4 :: o5 :: o6 :: o7 :: o8 :: o9 :: o10 :: o11 :: o12 :: o13 :: o14 :: o15 :: o16 :: os)) listed 16 = true) (hr : (Region.ready md (List.toArray (o0 :: o1 :: o2 :: o3 :: o4 :: o5 :: o6 :: o7 :: o8 :: o9 :: o10 :: o11 :: o12 :: o13 :: o14 :: o15 :: o16 :: os)) listed).contains 16 = true)
    (hQ : ∀ c a w, Q (.panic c) (a.put o16.dst v) w → Q (.panic c) a w) (hy : YieldsIf P (List.toArray (o0 :: o1 :: o2 :: o3 :: o4 :: o5 :: o6 :: o7 :: o8 :: o9 :: o10 :: o11 :: o12 :: o13 :: o14 :: o15 :: o16 :: os)) S o16 v a) (hS : S w)
    (h : wpAnyH P md (List.toArray (o0 :: o1 :: o2 :: o3 :: o4 :: o5 :: o6 :: o7 :: o8 :: o9 :: o10 :: o11 :: o12 :: o13 :: o14 :: o15 :: o16 :: os)) Q S fuel (listed.setIfInBounds 16 true) (a.put o16.dst v) w) : wpAnyH P md (List.toArray (o0 :: o1 :: o2 :: o3 :: o4 :: o5 :: o6 :: o7 :: o8 :: o9 :: o10 :: o11 :: o12 :: o13 :: o14 :: o15 :: o16 :: os)) Q S (fuel + 1) listed a w :=
  wpAnyH_take (i := 16) (oi := o16) rfl hs hf hr hQ hy hS h

theorem take17 {P : Program} {md : Region.Mode} {Q : Exit → Act → World → Prop} {S : World → Prop} {o0 o1 o2 o3 o4 o5 o6 o7 o8 o9 o10 o11 o12 o13 o14 o15 o16 o17 : Oper} {os : List Oper} {v : Value} {fuel : Nat} {listed : Array Bool} {a : Act} {w : World}
    (hs : Region.noSelect (List.toArray (o0 :: o1 :: o2 :: o3 :: o4 :: o5 :: o6 :: o7 :: o8 :: o9 :: o10 :: o11 :: o12 :: o13 :: o14 :: o15 :: o16 :: o17 :: os)) = true) (hf : Region.free md (List.toArray (o0 :: o1 :: o2 :: o3 :: o4 :: o5 :: o6 :: o7 :: o8 :: o9 :: o10 :: o11 :: o12 :: o13 :: o14 :: o15 :: o16 :: o17 :: os)) listed 17 = true) (hr : (Region.ready md (List.toArray (o0 :: o1 :: o2 :: o3 :: o4 :: o5 :: o6 :: o7 :: o8 :: o9 :: o10 :: o11 :: o12 :: o13 :: o14 :: o15 :: o16 :: o17 :: os)) listed).contains 17 = true)
    (hQ : ∀ c a w, Q (.panic c) (a.put o17.dst v) w → Q (.panic c) a w) (hy : YieldsIf P (List.toArray (o0 :: o1 :: o2 :: o3 :: o4 :: o5 :: o6 :: o7 :: o8 :: o9 :: o10 :: o11 :: o12 :: o13 :: o14 :: o15 :: o16 :: o17 :: os)) S o17 v a) (hS : S w)
    (h : wpAnyH P md (List.toArray (o0 :: o1 :: o2 :: o3 :: o4 :: o5 :: o6 :: o7 :: o8 :: o9 :: o10 :: o11 :: o12 :: o13 :: o14 :: o15 :: o16 :: o17 :: os)) Q S fuel (listed.setIfInBounds 17 true) (a.put o17.dst v) w) : wpAnyH P md (List.toArray (o0 :: o1 :: o2 :: o3 :: o4 :: o5 :: o6 :: o7 :: o8 :: o9 :: o10 :: o11 :: o12 :: o13 :: o14 :: o15 :: o16 :: o17 :: os)) Q S (fuel + 1) listed a w :=
  wpAnyH_take (i := 17) (oi := o17) rfl hs hf hr hQ hy hS h

theorem take18 {P : Program} {md : Region.Mode} {Q : Exit → Act → World → Prop} {S : World → Prop} {o0 o1 o2 o3 o4 o5 o6 o7 o8 o9 o10 o11 o12 o13 o14 o15 o16 o17 o18 : Oper} {os : List Oper} {v : Value} {fuel : Nat} {listed : Array Bool} {a : Act} {w : World}
    (hs : Region.noSelect (List.toArray (o0 :: o1 :: o2 :: o3 :: o4 :: o5 :: o6 :: o7 :: o8 :: o9 :: o10 :: o11 :: o12 :: o13 :: o14 :: o15 :: o16 :: o17 :: o18 :: os)) = true) (hf : Region.free md (List.toArray (o0 :: o1 :: o2 :: o3 :: o4 :: o5 :: o6 :: o7 :: o8 :: o9 :: o10 :: o11 :: o12 :: o13 :: o14 :: o15 :: o16 :: o17 :: o18 :: os)) listed 18 = true) (hr : (Region.ready md (List.toArray (o0 :: o1 :: o2 :: o3 :: o4 :: o5 :: o6 :: o7 :: o8 :: o9 :: o10 :: o11 :: o12 :: o13 :: o14 :: o15 :: o16 :: o17 :: o18 :: os)) listed).contains 18 = true)
    (hQ : ∀ c a w, Q (.panic c) (a.put o18.dst v) w → Q (.panic c) a w) (hy : YieldsIf P (List.toArray (o0 :: o1 :: o2 :: o3 :: o4 :: o5 :: o6 :: o7 :: o8 :: o9 :: o10 :: o11 :: o12 :: o13 :: o14 :: o15 :: o16 :: o17 :: o18 :: os)) S o18 v a) (hS : S w)
    (h : wpAnyH P md (List.toArray (o0 :: o1 :: o2 :: o3 :: o4 :: o5 :: o6 :: o7 :: o8 :: o9 :: o10 :: o11 :: o12 :: o13 :: o14 :: o15 :: o16 :: o17 :: o18 :: os)) Q S fuel (listed.setIfInBounds 18 true) (a.put o18.dst v) w) : wpAnyH P md (List.toArray (o0 :: o1 :: o2 :: o3 :: o4 :: o5 :: o6 :: o7 :: o8 :: o9 :: o10 :: o11 :: o12 :: o13 :: o14 :: o15 :: o16 :: o17 :: o18 :: os)) Q S (fuel + 1) listed a w :=
  wpAnyH_take (i := 18) (oi := o18) rfl hs hf hr hQ hy hS h

theorem take19 {P : Program} {md : Region.Mode} {Q : Exit → Act → World → Prop} {S : World → Prop} {o0 o1 o2 o3 o4 o5 o6 o7 o8 o9 o10 o11 o12 o13 o14 o15 o16 o17 o18 o19 : Oper} {os : List Oper} {v : Value} {fuel : Nat} {listed : Array Bool} {a : Act} {w : World}
    (hs : Region.noSelect (List.toArray (o0 :: o1 :: o2 :: o3 :: o4 :: o5 :: o6 :: o7 :: o8 :: o9 :: o10 :: o11 :: o12 :: o13 :: o14 :: o15 :: o16 :: o17 :: o18 :: o19 :: os)) = true) (hf : Region.free md (List.toArray (o0 :: o1 :: o2 :: o3 :: o4 :: o5 :: o6 :: o7 :: o8 :: o9 :: o10 :: o11 :: o12 :: o13 :: o14 :: o15 :: o16 :: o17 :: o18 :: o19 :: os)) listed 19 = true) (hr : (Region.ready md (List.toArray (o0 :: o1 :: o2 :: o3 :: o4 :: o5 :: o6 :: o7 :: o8 :: o9 :: o10 :: o11 :: o12 :: o13 :: o14 :: o15 :: o16 :: o17 :: o18 :: o19 :: os)) listed).contains 19 = true)
    (hQ : ∀ c a w, Q (.panic c) (a.put o19.dst v) w → Q (.panic c) a w) (hy : YieldsIf P (List.toArray (o0 :: o1 :: o2 :: o3 :: o4 :: o5 :: o6 :: o7 :: o8 :: o9 :: o10 :: o11 :: o12 :: o13 :: o14 :: o15 :: o16 :: o17 :: o18 :: o19 :: os)) S o19 v a) (hS : S w)
    (h : wpAnyH P md (List.toArray (o0 :: o1 :: o2 :: o3 :: o4 :: o5 :: o6 :: o7 :: o8 :: o9 :: o10 :: o11 :: o12 :: o13 :: o14 :: o15 :: o16 :: o17 :: o18 :: o19 :: os)) Q S fuel (listed.setIfInBounds 19 true) (a.put o19.dst v) w) : wpAnyH P md (List.toArray (o0 :: o1 :: o2 :: o3 :: o4 :: o5 :: o6 :: o7 :: o8 :: o9 :: o10 :: o11 :: o12 :: o13 :: o14 :: o15 :: o16 :: o17 :: o18 :: o19 :: os)) Q S (fuel + 1) listed a w :=
  wpAnyH_take (i := 19) (oi := o19) rfl hs hf hr hQ hy hS h

theorem take20 {P : Program} {md : Region.Mode} {Q : Exit → Act → World → Prop} {S : World → Prop} {o0 o1 o2 o3 o4 o5 o6 o7 o8 o9 o10 o11 o12 o13 o14 o15 o16 o17 o18 o19 o20 : Oper} {os : List Oper} {v : Value} {fuel : Nat} {listed : Array Bool} {a : Act} {w : World}
    (hs : Region.noSelect (List.toArray (o0 :: o1 :: o2 :: o3 :: o4 :: o5 :: o6 :: o7 :: o8 :: o9 :: o10 :: o11 :: o12 :: o13 :: o14 :: o15 :: o16 :: o17 :: o18 :: o19 :: o20 :: os)) = true) (hf : Region.free md (List.toArray (o0 :: o1 :: o2 :: o3 :: o4 :: o5 :: o6 :: o7 :: o8 :: o9 :: o10 :: o11 :: o12 :: o13 :: o14 :: o15 :: o16 :: o17 :: o18 :: o19 :: o20 :: os)) listed 20 = true) (hr : (Region.ready md (List.toArray (o0 :: o1 :: o2 :: o3 :: o4 :: o5 :: o6 :: o7 :: o8 :: o9 :: o10 :: o11 :: o12 :: o13 :: o14 :: o15 :: o16 :: o17 :: o18 :: o19 :: o20 :: os)) listed).contains 20 = true)
    (hQ : ∀ c a w, Q (.panic c) (a.put o20.dst v) w → Q (.panic c) a w) (hy : YieldsIf P (List.toArray (o0 :: o1 :: o2 :: o3 :: o4 :: o5 :: o6 :: o7 :: o8 :: o9 :: o10 :: o11 :: o12 :: o13 :: o14 :: o15 :: o16 :: o17 :: o18 :: o19 :: o20 :: os)) S o20 v a) (hS : S w)
    (h : wpAnyH P md (List.toArray (o0 :: o1 :: o2 :: o3 :: o4 :: o5 :: o6 :: o7 :: o8 :: o9 :: o10 :: o11 :: o12 :: o13 :: o14 :: o15 :: o16 :: o17 :: o18 :: o19 :: o20 :: os)) Q S fuel (listed.setIfInBounds 20 true) (a.put o20.dst v) w) : wpAnyH P md (List.toArray (o0 :: o1 :: o2 :: o3 :: o4 :: o5 :: o6 :: o7 :: o8 :: o9 :: o10 :: o11 :: o12 :: o13 :: o14 :: o15 :: o16 :: o17 :: o18 :: o19 :: o20 :: os)) Q S (fuel + 1) listed a w :=
  wpAnyH_take (i := 20) (oi := o20) rfl hs hf hr hQ hy hS h

theorem take21 {P : Program} {md : Region.Mode} {Q : Exit → Act → World → Prop} {S : World → Prop} {o0 o1 o2 o3 o4 o5 o6 o7 o8 o9 o10 o11 o12 o13 o14 o15 o16 o17 o18 o19 o20 o21 : Oper} {os : List Oper} {v : Value} {fuel : Nat} {listed : Array Bool} {a : Act} {w : World}
    (hs : Region.noSelect (List.toArray (o0 :: o1 :: o2 :: o3 :: o4 :: o5 :: o6 :: o7 :: o8 :: o9 :: o10 :: o11 :: o12 :: o13 :: o14 :: o15 :: o16 :: o17 :: o18 :: o19 :: o20 :: o21 :: os)) = true) (hf : Region.free md (List.toArray (o0 :: o1 :: o2 :: o3 :: o4 :: o5 :: o6 :: o7 :: o8 :: o9 :: o10 :: o11 :: o12 :: o13 :: o14 :: o15 :: o16 :: o17 :: o18 :: o19 :: o20 :: o21 :: os)) listed 21 = true) (hr : (Region.ready md (List.toArray (o0 :: o1 :: o2 :: o3 :: o4 :: o5 :: o6 :: o7 :: o8 :: o9 :: o10 :: o11 :: o12 :: o13 :: o14 :: o15 :: o16 :: o17 :: o18 :: o19 :: o20 :: o21 :: os)) listed).contains 21 = true)
    (hQ : ∀ c a w, Q (.panic c) (a.put o21.dst v) w → Q (.panic c) a w) (hy : YieldsIf P (List.toArray (o0 :: o1 :: o2 :: o3 :: o4 :: o5 :: o6 :: o7 :: o8 :: o9 :: o10 :: o11 :: o12 :: o13 :: o14 :: o15 :: o16 :: o17 :: o18 :: o19 :: o20 :: o21 :: os)) S o21 v a) (hS : S w)
    (h : wpAnyH P md (List.toArray (o0 :: o1 :: o2 :: o3 :: o4 :: o5 :: o6 :: o7 :: o8 :: o9 :: o10 :: o11 :: o12 :: o13 :: o14 :: o15 :: o16 :: o17 :: o18 :: o19 :: o20 :: o21 :: os)) Q S fuel (listed.setIfInBounds 21 true) (a.put o21.dst v) w) : wpAnyH P md (List.toArray (o0 :: o1 :: o2 :: o3 :: o4 :: o5 :: o6 :: o7 :: o8 :: o9 :: o10 :: o11 :: o12 :: o13 :: o14 :: o15 :: o16 :: o17 :: o18 :: o19 :: o20 :: o21 :: os)) Q S (fuel + 1) listed a w :=
  wpAnyH_take (i := 21) (oi := o21) rfl hs hf hr hQ hy hS h

theorem take22 {P : Program} {md : Region.Mode} {Q : Exit → Act → World → Prop} {S : World → Prop} {o0 o1 o2 o3 o4 o5 o6 o7 o8 o9 o10 o11 o12 o13 o14 o15 o16 o17 o18 o19 o20 o21 o22 : Oper} {os : List Oper} {v : Value} {fuel : Nat} {listed : Array Bool} {a : Act} {w : World}
    (hs : Region.noSelect (List.toArray (o0 :: o1 :: o2 :: o3 :: o4 :: o5 :: o6 :: o7 :: o8 :: o9 :: o10 :: o11 :: o12 :: o13 :: o14 :: o15 :: o16 :: o17 :: o18 :: o19 :: o20 :: o21 :: o22 :: os)) = true) (hf : Region.free md (List.toArray (o0 :: o1 :: o2 :: o3 :: o4 :: o5 :: o6 :: o7 :: o8 :: o9 :: o10 :: o11 :: o12 :: o13 :: o14 :: o15 :: o16 :: o17 :: o18 :: o19 :: o20 :: o21 :: o22 :: os)) listed 22 = true) (hr : (Region.ready md (List.toArray (o0 :: o1 :: o2 :: o3 :: o4 :: o5 :: o6 :: o7 :: o8 :: o9 :: o10 :: o11 :: o12 :: o13 :: o14 :: o15 :: o16 :: o17 :: o18 :: o19 :: o20 :: o21 :: o22 :: os)) listed).contains 22 = true)
    (hQ : ∀ c a w, Q (.panic c) (a.put o22.dst v) w → Q (.panic c) a w) (hy : YieldsIf P (List.toArray (o0 :: o1 :: o2 :: o3 :: o4 :: o5 :: o6 :: o7 :: o8 :: o9 :: o10 :: o11 :: o12 :: o13 :: o14 :: o15 :: o16 :: o17 :: o18 :: o19 :: o20 :: o21 :: o22 :: os)) S o22 v a) (hS : S w)
    (h : wpAnyH P md (List.toArray (o0 :: o1 :: o2 :: o3 :: o4 :: o5 :: o6 :: o7 :: o8 :: o9 :: o10 :: o11 :: o12 :: o13 :: o14 :: o15 :: o16 :: o17 :: o18 :: o19 :: o20 :: o21 :: o22 :: os)) Q S fuel (listed.setIfInBounds 22 true) (a.put o22.dst v) w) : wpAnyH P md (List.toArray (o0 :: o1 :: o2 :: o3 :: o4 :: o5 :: o6 :: o7 :: o8 :: o9 :: o10 :: o11 :: o12 :: o13 :: o14 :: o15 :: o16 :: o17 :: o18 :: o19 :: o20 :: o21 :: o22 :: os)) Q S (fuel + 1) listed a w :=
  wpAnyH_take (i := 22) (oi := o22) rfl hs hf hr hQ hy hS h

theorem take23 {P : Program} {md : Region.Mode} {Q : Exit → Act → World → Prop} {S : World → Prop} {o0 o1 o2 o3 o4 o5 o6 o7 o8 o9 o10 o11 o12 o13 o14 o15 o16 o17 o18 o19 o20 o21 o22 o23 : Oper} {os : List Oper} {v : Value} {fuel : Nat} {listed : Array Bool} {a : Act} {w : World}
    (hs : Region.noSelect (List.toArray (o0 :: o1 :: o2 :: o3 :: o4 :: o5 :: o6 :: o7 :: o8 :: o9 :: o10 :: o11 :: o12 :: o13 :: o14 :: o15 :: o16 :: o17 :: o18 :: o19 :: o20 :: o21 :: o22 :: o23 :: os)) = true) (hf : Region.free md (List.toArray (o0 :: o1 :: o2 :: o3 :: o4 :: o5 :: o6 :: o7 :: o8 :: o9 :: o10 :: o11 :: o12 :: o13 :: o14 :: o15 :: o16 :: o17 :: o18 :: o19 :: o20 :: o21 :: o22 :: o23 :: os)) listed 23 = true) (hr : (Region.ready md (List.toArray (o0 :: o1 :: o2 :: o3 :: o4 :: o5 :: o6 :: o7 :: o8 :: o9 :: o10 :: o11 :: o12 :: o13 :: o14 :: o15 :: o16 :: o17 :: o18 :: o19 :: o20 :: o21 :: o22 :: o23 :: os)) listed).contains 23 = true)
    (hQ : ∀ c a w, Q (.panic c) (a.put o23.dst v) w → Q (.panic c) a w) (hy : YieldsIf P (List.toArray (o0 :: o1 :: o2 :: o3 :: o4 :: o5 :: o6 :: o7 :: o8 :: o9 :: o10 :: o11 :: o12 :: o13 :: o14 :: o15 :: o16 :: o17 :: o18 :: o19 :: o20 :: o21 :: o22 :: o23 :: os)) S o23 v a) (hS : S w)
    (h : wpAnyH P md (List.toArray (o0 :: o1 :: o2 :: o3 :: o4 :: o5 :: o6 :: o7 :: o8 :: o9 :: o10 :: o11 :: o12 :: o13 :: o14 :: o15 :: o16 :: o17 :: o18 :: o19 :: o20 :: o21 :: o22 :: o23 :: os)) Q S fuel (listed.setIfInBounds 23 true) (a.put o23.dst v) w) : wpAnyH P md (List.toArray (o0 :: o1 :: o2 :: o3 :: o4 :: o5 :: o6 :: o7 :: o8 :: o9 :: o10 :: o11 :: o12 :: o13 :: o14 :: o15 :: o16 :: o17 :: o18 :: o19 :: o20 :: o21 :: o22 :: o23 :: os)) Q S (fuel + 1) listed a w :=
  wpAnyH_take (i := 23) (oi := o23) rfl hs hf hr hQ hy hS h

theorem take24 {P : Program} {md : Region.Mode} {Q : Exit → Act → World → Prop} {S : World → Prop} {o0 o1 o2 o3 o4 o5 o6 o7 o8 o9 o10 o11 o12 o13 o14 o15 o16 o17 o18 o19 o20 o21 o22 o23 o24 : Oper} {os : List Oper} {v : Value} {fuel : Nat} {listed : Array Bool} {a : Act} {w : World}
    (hs : Region.noSelect (List.toArray (o0 :: o1 :: o2 :: o3 :: o4 :: o5 :: o6 :: o7 :: o8 :: o9 :: o10 :: o11 :: o12 :: o13 :: o14 :: o15 :: o16 :: o17 :: o18 :: o19 :: o20 :: o21 :: o22 :: o23 :: o24 :: os)) = true) (hf : Region.free md (List.toArray (o0 :: o1 :: o2 :: o3 :: o4 :: o5 :: o6 :: o7 :: o8 :: o9 :: o10 :: o11 :: o12 :: o13 :: o14 :: o15 :: o16 :: o17 :: o18 :: o19 :: o20 :: o21 :: o22 :: o23 :: o24 :: os)) listed 24 = true) (hr : (Region.ready md (List.toArray (o0 :: o1 :: o2 :: o3 :: o4 :: o5 :: o6 :: o7 :: o8 :: o9 :: o10 :: o11 :: o12 :: o13 :: o14 :: o15 :: o16 :: o17 :: o18 :: o19 :: o20 :: o21 :: o22 :: o23 :: o24 :: os)) listed).contains 24 = true)
    (hQ : ∀ c a w, Q (.panic c) (a.put o24.dst v) w → Q (.panic c) a w) (hy : YieldsIf P (List.toArray (o0 :: o1 :: o2 :: o3 :: o4 :: o5 :: o6 :: o7 :: o8 :: o9 :: o10 :: o11 :: o12 :: o13 :: o14 :: o15 :: o16 :: o17 :: o18 :: o19 :: o20 :: o21 :: o22 :: o23 :: o24 :: os)) S o24 v a) (hS : S w)
    (h : wpAnyH P md (List.toArray (o0 :: o1 :: o2 :: o3 :: o4 :: o5 :: o6 :: o7 :: o8 :: o9 :: o10 :: o11 :: o12 :: o13 :: o14 :: o15 :: o16 :: o17 :: o18 :: o19 :: o20 :: o21 :: o22 :: o23 :: o24 :: os)) Q S fuel (listed.setIfInBounds 24 true) (a.put o24.dst v) w) : wpAnyH P md (List.toArray (o0 :: o1 :: o2 :: o3 :: o4 :: o5 :: o6 :: o7 :: o8 :: o9 :: o10 :: o11 :: o12 :: o13 :: o14 :: o15 :: o16 :: o17 :: o18 :: o19 :: o20 :: o21 :: o22 :: o23 :: o24 :: os)) Q S (fuel + 1) listed a w :=
  wpAnyH_take (i := 24) (oi := o24) rfl hs hf hr hQ hy hS h

theorem take25 {P : Program} {md : Region.Mode} {Q : Exit → Act → World → Prop} {S : World → Prop} {o0 o1 o2 o3 o4 o5 o6 o7 o8 o9 o10 o11 o12 o13 o14 o15 o16 o17 o18 o19 o20 o21 o22 o23 o24 o25 : Oper} {os : List Oper} {v : Value} {fuel : Nat} {listed : Array Bool} {a : Act} {w : World}
    (hs : Region.noSelect (List.toArray (o0 :: o1 :: o2 :: o3 :: o4 :: o5 :: o6 :: o7 :: o8 :: o9 :: o10 :: o11 :: o12 :: o13 :: o14 :: o15 :: o16 :: o17 :: o18 :: o19 :: o20 :: o21 :: o22 :: o23 :: o24 :: o25 :: os)) = true) (hf : Region.free md (List.toArray (o0 :: o1 :: o2 :: o3 :: o4 :: o5 :: o6 :: o7 :: o8 :: o9 :: o10 :: o11 :: o12 :: o13 :: o14 :: o15 :: o16 :: o17 :: o18 :: o19 :: o20 :: o21 :: o22 :: o23 :: o24 :: o25 :: os)) listed 25 = true) (hr : (Region.ready md (List.toArray (o0 :: o1 :: o2 :: o3 :: o4 :: o5 :: o6 :: o7 :: o8 :: o9 :: o10 :: o11 :: o12 :: o13 :: o14 :: o15 :: o16 :: o17 :: o18 :: o19 :: o20 :: o21 :: o22 :: o23 :: o24 :: o25 :: os)) listed).contains 25 = true)
    (hQ : ∀ c a w, Q (.panic c) (a.put o25.dst v) w → Q (.panic c) a w) (hy : YieldsIf P (List.toArray (o0 :: o1 :: o2 :: o3 :: o4 :: o5 :: o6 :: o7 :: o8 :: o9 :: o10 :: o11 :: o12 :: o13 :: o14 :: o15 :: o16 :: o17 :: o18 :: o19 :: o20 :: o21 :: o22 :: o23 :: o24 :: o25 :: os)) S o25 v a) (hS : S w)
    (h : wpAnyH P md (List.toArray (o0 :: o1 :: o2 :: o3 :: o4 :: o5 :: o6 :: o7 :: o8 :: o9 :: o10 :: o11 :: o12 :: o13 :: o14 :: o15 :: o16 :: o17 :: o18 :: o19 :: o20 :: o21 :: o22 :: o23 :: o24 :: o25 :: os)) Q S fuel (listed.setIfInBounds 25 true) (a.put o25.dst v) w) : wpAnyH P md (List.toArray (o0 :: o1 :: o2 :: o3 :: o4 :: o5 :: o6 :: o7 :: o8 :: o9 :: o10 :: o11 :: o12 :: o13 :: o14 :: o15 :: o16 :: o17 :: o18 :: o19 :: o20 :: o21 :: o22 :: o23 :: o24 :: o25 :: os)) Q S (fuel + 1) listed a w :=
  wpAnyH_take (i := 25) (oi := o25) rfl hs hf hr hQ hy hS h

theorem take26 {P : Program} {md : Region.Mode} {Q : Exit → Act → World → Prop} {S : World → Prop} {o0 o1 o2 o3 o4 o5 o6 o7 o8 o9 o10 o11 o12 o13 o14 o15 o16 o17 o18 o19 o20 o21 o22 o23 o24 o25 o26 : Oper} {os : List Oper} {v : Value} {fuel : Nat} {listed : Array Bool} {a : Act} {w : World}
    (hs : Region.noSelect (List.toArray (o0 :: o1 :: o2 :: o3 :: o4 :: o5 :: o6 :: o7 :: o8 :: o9 :: o10 :: o11 :: o12 :: o13 :: o14 :: o15 :: o16 :: o17 :: o18 :: o19 :: o20 :: o21 :: o22 :: o23 :: o24 :: o25 :: o26 :: os)) = true) (hf : Region.free md (List.toArray (o0 :: o1 :: o2 :: o3 :: o4 :: o5 :: o6 :: o7 :: o8 :: o9 :: o10 :: o11 :: o12 :: o13 :: o14 :: o15 :: o16 :: o17 :: o18 :: o19 :: o20 :: o21 :: o22 :: o23 :: o24 :: o25 :: o26 :: os)) listed 26 = true) (hr : (Region.ready md (List.toArray (o0 :: o1 :: o2 :: o3 :: o4 :: o5 :: o6 :: o7 :: o8 :: o9 :: o10 :: o11 :: o12 :: o13 :: o14 :: o15 :: o16 :: o17 :: o18 :: o19 :: o20 :: o21 :: o22 :: o23 :: o24 :: o25 :: o26 :: os)) listed).contains 26 = true)
    (hQ : ∀ c a w, Q (.panic c) (a.put o26.dst v) w → Q (.panic c) a w) (hy : YieldsIf P (List.toArray (o0 :: o1 :: o2 :: o3 :: o4 :: o5 :: o6 :: o7 :: o8 :: o9 :: o10 :: o11 :: o12 :: o13 :: o14 :: o15 :: o16 :: o17 :: o18 :: o19 :: o20 :: o21 :: o22 :: o23 :: o24 :: o25 :: o26 :: os)) S o26 v a) (hS : S w)
    (h : wpAnyH P md (List.toArray (o0 :: o1 :: o2 :: o3 :: o4 :: o5 :: o6 :: o7 :: o8 :: o9 :: o10 :: o11 :: o12 :: o13 :: o14 :: o15 :: o16 :: o17 :: o18 :: o19 :: o20 :: o21 :: o22 :: o23 :: o24 :: o25 :: o26 :: os)) Q S fuel (listed.setIfInBounds 26 true) (a.put o26.dst v) w) : wpAnyH P md (List.toArray (o0 :: o1 :: o2 :: o3 :: o4 :: o5 :: o6 :: o7 :: o8 :: o9 :: o10 :: o11 :: o12 :: o13 :: o14 :: o15 :: o16 :: o17 :: o18 :: o19 :: o20 :: o21 :: o22 :: o23 :: o24 :: o25 :: o26 :: os)) Q S (fuel + 1) listed a w :=
  wpAnyH_take (i := 26) (oi := o26) rfl hs hf hr hQ hy hS h

theorem take27 {P : Program} {md : Region.Mode} {Q : Exit → Act → World → Prop} {S : World → Prop} {o0 o1 o2 o3 o4 o5 o6 o7 o8 o9 o10 o11 o12 o13 o14 o15 o16 o17 o18 o19 o20 o21 o22 o23 o24 o25 o26 o27 : Oper} {os : List Oper} {v : Value} {fuel : Nat} {listed : Array Bool} {a : Act} {w : World}
    (hs : Region.noSelect (List.toArray (o0 :: o1 :: o2 :: o3 :: o4 :: o5 :: o6 :: o7 :: o8 :: o9 :: o10 :: o11 :: o12 :: o13 :: o14 :: o15 :: o16 :: o17 :: o18 :: o19 :: o20 :: o21 :: o22 :: o23 :: o24 :: o25 :: o26 :: o27 :: os)) = true) (hf : Region.free md (List.toArray (o0 :: o1 :: o2 :: o3 :: o4 :: o5 :: o6 :: o7 :: o8 :: o9 :: o10 :: o11 :: o12 :: o13 :: o14 :: o15 :: o16 :: o17 :: o18 :: o19 :: o20 :: o21 :: o22 :: o23 :: o24 :: o25 :: o26 :: o27 :: os)) listed 27 = true) (hr : (Region.ready md (List.toArray (o0 :: o1 :: o2 :: o3 :: o4 :: o5 :: o6 :: o7 :: o8 :: o9 :: o10 :: o11 :: o12 :: o13 :: o14 :: o15 :: o16 :: o17 :: o18 :: o19 :: o20 :: o21 :: o22 :: o23 :: o24 :: o25 :: o26 :: o27 :: os)) listed).contains 27 = true)
    (hQ : ∀ c a w, Q (.panic c) (a.put o27.dst v) w → Q (.panic c) a w) (hy : YieldsIf P (List.toArray (o0 :: o1 :: o2 :: o3 :: o4 :: o5 :: o6 :: o7 :: o8 :: o9 :: o10 :: o11 :: o12 :: o13 :: o14 :: o15 :: o16 :: o17 :: o18 :: o19 :: o20 :: o21 :: o22 :: o23 :: o24 :: o25 :: o26 :: o27 :: os)) S o27 v a) (hS : S w)
    (h : wpAnyH P md (List.toArray (o0 :: o1 :: o2 :: o3 :: o4 :: o5 :: o6 :: o7 :: o8 :: o9 :: o10 :: o11 :: o12 :: o13 :: o14 :: o15 :: o16 :: o17 :: o18 :: o19 :: o20 :: o21 :: o22 :: o23 :: o24 :: o25 :: o26 :: o27 :: os)) Q S fuel (listed.setIfInBounds 27 true) (a.put o27.dst v) w) : wpAnyH P md (List.toArray (o0 :: o1 :: o2 :: o3 :: o4 :: o5 :: o6 :: o7 :: o8 :: o9 :: o10 :: o11 :: o12 :: o13 :: o14 :: o15 :: o16 :: o17 :: o18 :: o19 :: o20 :: o21 :: o22 :: o23 :: o24 :: o25 :: o26 :: o27 :: os)) Q S (fuel + 1) listed a w :=
  wpAnyH_take (i := 27) (oi := o27) rfl hs hf hr hQ hy hS h

theorem take28 {P : Program} {md : Region.Mode} {Q : Exit → Act → World → Prop} {S : World → Prop} {o0 o1 o2 o3 o4 o5 o6 o7 o8 o9 o10 o11 o12 o13 o14 o15 o16 o17 o18 o19 o20 o21 o22 o23 o24 o25 o26 o27 o28 : Oper} {os : List Oper} {v : Value} {fuel : Nat} {listed : Array Bool} {a : Act} {w : World}
    (hs : Region.noSelect (List.toArray (o0 :: o1 :: o2 :: o3 :: o4 :: o5 :: o6 :: o7 :: o8 :: o9 :: o10 :: o11 :: o12 :: o13 :: o14 :: o15 :: o16 :: o17 :: o18 :: o19 :: o20 :: o21 :: o22 :: o23 :: o24 :: o25 :: o26 :: o27 :: o28 :: os)) = true) (hf : Region.free md (List.toArray (o0 :: o1 :: o2 :: o3 :: o4 :: o5 :: o6 :: o7 :: o8 :: o9 :: o10 :: o11 :: o12 :: o13 :: o14 :: o15 :: o16 :: o17 :: o18 :: o19 :: o20 :: o21 :: o22 :: o23 :: o24 :: o25 :: o26 :: o27 :: o28 :: os)) listed 28 = true) (hr : (Region.ready md (List.toArray (o0 :: o1 :: o2 :: o3 :: o4 :: o5 :: o6 :: o7 :: o8 :: o9 :: o10 :: o11 :: o12 :: o13 :: o14 :: o15 :: o16 :: o17 :: o18 :: o19 :: o20 :: o21 :: o22 :: o23 :: o24 :: o25 :: o26 :: o27 :: o28 :: os)) listed).contains 28 = true)
    (hQ : ∀ c a w, Q (.panic c) (a.put o28.dst v) w → Q (.panic c) a w) (hy : YieldsIf P (List.toArray (o0 :: o1 :: o2 :: o3 :: o4 :: o5 :: o6 :: o7 :: o8 :: o9 :: o10 :: o11 :: o12 :: o13 :: o14 :: o15 :: o16 :: o17 :: o18 :: o19 :: o20 :: o21 :: o22 :: o23 :: o24 :: o25 :: o26 :: o27 :: o28 :: os)) S o28 v a) (hS : S w)
    (h : wpAnyH P md (List.toArray (o0 :: o1 :: o2 :: o3 :: o4 :: o5 :: o6 :: o7 :: o8 :: o9 :: o10 :: o11 :: o12 :: o13 :: o14 :: o15 :: o16 :: o17 :: o18 :: o19 :: o20 :: o21 :: o22 :: o23 :: o24 :: o25 :: o26 :: o27 :: o28 :: os)) Q S fuel (listed.setIfInBounds 28 true) (a.put o28.dst v) w) : wpAnyH P md (List.toArray (o0 :: o1 :: o2 :: o3 :: o4 :: o5 :: o6 :: o7 :: o8 :: o9 :: o10 :: o11 :: o12 :: o13 :: o14 :: o15 :: o16 :: o17 :: o18 :: o19 :: o20 :: o21 :: o22 :: o23 :: o24 :: o25 :: o26 :: o27 :: o28 :: os)) Q S (fuel + 1) listed a w :=
  wpAnyH_take (i := 28) (oi := o28) rfl hs hf hr hQ hy hS h

theorem take29 {P : Program} {md : Region.Mode} {Q : Exit → Act → World → Prop} {S : World → Prop} {o0 o1 o2 o3 o4 o5 o6 o7 o8 o9 o10 o11 o12 o13 o14 o15 o16 o17 o18 o19 o20 o21 o22 o23 o24 o25 o26 o27 o28 o29 : Oper} {os : List Oper} {v : Value} {fuel : Nat} {listed : Array Bool} {a : Act} {w : World}
    (hs : Region.noSelect (List.toArray (o0 :: o1 :: o2 :: o3 :: o4 :: o5 :: o6 :: o7 :: o8 :: o9 :: o10 :: o11 :: o12 :: o13 :: o14 :: o15 :: o16 :: o17 :: o18 :: o19 :: o20 :: o21 :: o22 :: o23 :: o24 :: o25 :: o26 :: o27 :: o28 :: o29 :: os)) = true) (hf : Region.free md (List.toArray (o0 :: o1 :: o2 :: o3 :: o4 :: o5 :: o6 :: o7 :: o8 :: o9 :: o10 :: o11 :: o12 :: o13 :: o14 :: o15 :: o16 :: o17 :: o18 :: o19 :: o20 :: o21 :: o22 :: o23 :: o24 :: o25 :: o26 :: o27 :: o28 :: o29 :: os)) listed 29 = true) (hr : (Region.ready md (List.toArray (o0 :: o1 :: o2 :: o3 :: o4 :: o5 :: o6 :: o7 :: o8 :: o9 :: o10 :: o11 :: o12 :: o13 :: o14 :: o15 :: o16 :: o17 :: o18 :: o19 :: o20 :: o21 :: o22 :: o23 :: o24 :: o25 :: o26 :: o27 :: o28 :: o29 :: os)) listed).contains 29 = true)
    (hQ : ∀ c a w, Q (.panic c) (a.put o29.dst v) w → Q (.panic c) a w) (hy : YieldsIf P (List.toArray (o0 :: o1 :: o2 :: o3 :: o4 :: o5 :: o6 :: o7 :: o8 :: o9 :: o10 :: o11 :: o12 :: o13 :: o14 :: o15 :: o16 :: o17 :: o18 :: o19 :: o20 :: o21 :: o22 :: o23 :: o24 :: o25 :: o26 :: o27 :: o28 :: o29 :: os)) S o29 v a) (hS : S w)
    (h : wpAnyH P md (List.toArray (o0 :: o1 :: o2 :: o3 :: o4 :: o5 :: o6 :: o7 :: o8 :: o9 :: o10 :: o11 :: o12 :: o13 :: o14 :: o15 :: o16 :: o17 :: o18 :: o19 :: o20 :: o21 :: o22 :: o23 :: o24 :: o25 :: o26 :: o27 :: o28 :: o29 :: os)) Q S fuel (listed.setIfInBounds 29 true) (a.put o29.dst v) w) : wpAnyH P md (List.toArray (o0 :: o1 :: o2 :: o3 :: o4 :: o5 :: o6 :: o7 :: o8 :: o9 :: o10 :: o11 :: o12 :: o13 :: o14 :: o15 :: o16 :: o17 :: o18 :: o19 :: o20 :: o21 :: o22 :: o23 :: o24 :: o25 :: o26 :: o27 :: o28 :: o29 :: os)) Q S (fuel + 1) listed a w :=
  wpAnyH_take (i := 29) (oi := o29) rfl hs hf hr hQ hy hS h

theorem last30 {P : Program} {md : Region.Mode} {Q : Exit → Act → World → Prop} {S : World → Prop} {o0 o1 o2 o3 o4 o5 o6 o7 o8 o9 o10 o11 o12 o13 o14 o15 o16 o17 o18 o19 o20 o21 o22 o23 o24 o25 o26 o27 o28 o29 o30 : Oper} {os : List Oper} {fuel : Nat} {listed : Array Bool} {a : Act} {w : World}
    (hr : Region.ready md (List.toArray (o0 :: o1 :: o2 :: o3 :: o4 :: o5 :: o6 :: o7 :: o8 :: o9 :: o10 :: o11 :: o12 :: o13 :: o14 :: o15 :: o16 :: o17 :: o18 :: o19 :: o20 :: o21 :: o22 :: o23 :: o24 :: o25 :: o26 :: o27 :: o28 :: o29 :: o30 :: os)) listed = [30])
    (h : ∀ K' : Act → World → Prop, Shut (∀ a w, S w → (S w → wpAnyH P md (List.toArray (o0 :: o1 :: o2 :: o3 :: o4 :: o5 :: o6 :: o7 :: o8 :: o9 :: o10 :: o11 :: o12 :: o13 :: o14 :: o15 :: o16 :: o17 :: o18 :: o19 :: o20 :: o21 :: o22 :: o23 :: o24 :: o25 :: o26 :: o27 :: o28 :: o29 :: o30 :: os)) Q S fuel (listed.setIfInBounds 30 true) a w) → K' a w) → if Region.wanted o30 (yielded (List.toArray (o0 :: o1 :: o2 :: o3 :: o4 :: o5 :: o6 :: o7 :: o8 :: o9 :: o10 :: o11 :: o12 :: o13 :: o14 :: o15 :: o16 :: o17 :: o18 :: o19 :: o20 :: o21 :: o22 :: o23 :: o24 :: o25 :: o26 :: o27 :: o28 :: o29 :: o30 :: os)) a.tmps) = true then Oper.wp P o30 a w K' Q else K' (a.put o30.dst undef) w) : wpAnyH P md (List.toArray (o0 :: o1 :: o2 :: o3 :: o4 :: o5 :: o6 :: o7 :: o8 :: o9 :: o10 :: o11 :: o12 :: o13 :: o14 :: o15 :: o16 :: o17 :: o18 :: o19 :: o20 :: o21 :: o22 :: o23 :: o24 :: o25 :: o26 :: o27 :: o28 :: o29 :: o30 :: os)) Q S (fuel + 1) listed a w :=
  wpAnyH_ready hr (by simp) (AllReadyH.cons (o := o30) rfl h AllReadyH.nil)

set_option maxRecDepth 100000 in
set_option maxHeartbeats 8000000 in
theorem reg39_zero (ops : Array Oper) (hops : Yba.f3.body.bind (findR 39) = some ops) (Q : Exit → Act → World → Prop) (ib mb lb q : Nat) (hd ind col line offs ta tb tc tk ch : Int) (af : Bool) (x0 x2 x4 x5 x6 x7 x12 x13 x14 x16 x17 x18 x19 x20 x21 x22 x23 x24 x25 x26 x27 x28 x29 x30 x31 x32 x33 x34 x35 x36 x37 x38 x39 x40 x41 x42 x43 x44 x45 x46 x47 x48 x49 x50 x51 x52 x53 x54 x55 x56 x57 x58 x59 x60 x61 x62 x63 x64 x65 x66 x67 x68 x69 x70 x71 x72 x73 x74 x75 x76 x77 x78 x79 x80 x81 x82 x83 x84 x85 x86 x87 x88 x89 x90 x91 x92 x93 x94 x95 x96 x97 x98 x99 x100 x101 x102 x103 x104 x105 x106 x107 x108 x109 x110 x111 x112 x113 x114 x115 x116 x117 x118 x119 x120 x121 x122 x123 x124 x125 x126 x127 x128 x129 x130 x131 x132 x133 x134 x135 x136 x137 x138 x139 x140 x141 x142 x143 x144 x145 x146 x147 x148 x149 x150 x151 x152 x153 x154 x155 x156 x157 x158 x159 x160 x161 x162 x163 x164 x165 x166 x167 x168 x169 x170 x171 x172 x173 x174 x175 x176 x177 x178 x179 x180 x181 x182 x183 x184 x185 x186 x187 x188 x189 x190 x191 x192 x193 x194 x195 x196 x197 x198 x199 x200 x201 : Value) (ds : List Deferred) (w : World)
    (y1 : w.cell? ⟨ib, 1, none⟩ = some (.int .i64 ind)) (y2 : w.cell? ⟨ib, 2, none⟩ = some (.int .i64 col)) (y5 : w.cell? ⟨ib, 5, none⟩ = some (.bool af)) (y9 : w.cell? ⟨ib, 9, none⟩ = some (.int .i64 tk)) (y12 : w.cell? ⟨ib, 12, none⟩ = some (.int .i64 ch))
    (m0 : w.cell? ⟨mb, 0, none⟩ = some (.int .i64 offs)) (m1 : w.cell? ⟨mb, 1, none⟩ = some (.int .i64 line)) (m2 : w.cell? ⟨mb, 2, none⟩ = some (.int .i64 col))
    (t0 : w.cell? ⟨mb + 1, 0, none⟩ = some (.int .i64 ta)) (t1 : w.cell? ⟨mb + 1, 1, none⟩ = some (.int .i64 tb)) (t2 : w.cell? ⟨mb + 1, 2, none⟩ = some (.int .i64 tc))
    (hl : ∀ o, o < 13 → ∃ v, w.cell? ⟨lb, o, none⟩ = some v) (lfz : ∀ o, w.frozen? ⟨lb, o, none⟩ = false) (d1 : ib ≠ lb) (d2 : mb ≠ lb) (d3 : mb + 1 ≠ lb) (e1 : lb ≠ ib) (e2 : lb ≠ mb) (e3 : lb ≠ mb + 1)
    
    (hQ : ∀ (z163 z164 z165 z166 z167 z168 z169 z170 z171 z172 z173 z174 z175 z176 z177 z178 z179 z180 z181 z182 z183 z184 z185 z186 z187 z188 z189 z190 z191 z192 : Value) (wf : World), Below lb w wf → wf.heap.size = w.heap.size → wf.rangeAt lb 0 [.bool true, .bool (ind == col), .bool false, .bool false, .bool af, .int .i64 (IntKind.i64.wrap (IntKind.i64.wrap (tk + q) - hd)), .int .i64 ch, .int .i64 offs, .int .i64 line, .int .i64 col, .int .i64 ta, .int .i64 tb, .int .i64 tc] → Q .normal { tmps := #[x0, .pointer (some ⟨ib, 0, none⟩), x2, .int .i64 0, x4, x5, x6, x7, .int .i64 q, .int .i64 hd, .pointer (some ⟨mb, 0, none⟩), .pointer (some ⟨mb + 1, 0, none⟩), x12, x13, x14, .pointer (some ⟨lb, 0, none⟩), x16, x17, x18, x19, x20, x21, x22, x23, x24, x25, x26, x27, x28, x29, x30, x31, x32, x33, x34, x35, x36, x37, x38, x39, x40, x41, x42, x43, x44, x45, x46, x47, x48, x49, x50, x51, x52, x53, x54, x55, x56, x57, x58, x59, x60, x61, x62, x63, x64, x65, x66, x67, x68, x69, x70, x71, x72, x73, x74, x75, x76, x77, x78, x79, x80, x81, x82, x83, x84, x85, x86, x87, x88, x89, x90, x91, x92, x93, x94, x95, x96, x97, x98, x99, x100, x101, x102, x103, x104, x105, x106, x107, x108, x109, x110, x111, x112, x113, x114, x115, x116, x117, x118, x119, x120, x121, x122, x123, x124, x125, x126, x127, x128, x129, x130, x131, x132, x133, x134, x135, x136, x137, x138, x139, x140, x141, x142, x143, x144, x145, x146, x147, x148, x149, x150, x151, x152, x153, x154, x155, x156, x157, x158, x159, x160, x161, x162, z163, z164, z165, z166, z167, z168, z169, z170, z171, z172, z173, z174, z175, z176, z177, z178, z179, z180, z181, z182, z183, z184, z185, z186, z187, z188, z189, z190, z191, z192, x193, x194, x195, x196, x197, x198, x199, x200, x201], defers := ds } wf) :
    (Code.region 39 ops true).wp Yba.prog Q { tmps := #[x0, .pointer (some ⟨ib, 0, none⟩), x2, .int .i64 0, x4, x5, x6, x7, .int .i64 q, .int .i64 hd, .pointer (some ⟨mb, 0, none⟩), .pointer (some ⟨mb + 1, 0, none⟩), x12, x13, x14, .pointer (some ⟨lb, 0, none⟩), x16, x17, x18, x19, x20, x21, x22, x23, x24, x25, x26, x27, x28, x29, x30, x31, x32, x33, x34, x35, x36, x37, x38, x39, x40, x41, x42, x43, x44, x45, x46, x47, x48, x49, x50, x51, x52, x53, x54, x55, x56, x57, x58, x59, x60, x61, x62, x63, x64, x65, x66, x67, x68, x69, x70, x71, x72, x73, x74, x75, x76, x77, x78, x79, x80, x81, x82, x83, x84, x85, x86, x87, x88, x89, x90, x91, x92, x93, x94, x95, x96, x97, x98, x99, x100, x101, x102, x103, x104, x105, x106, x107, x108, x109, x110, x111, x112, x113, x114, x115, x116, x117, x118, x119, x120, x121, x122, x123, x124, x125, x126, x127, x128, x129, x130, x131, x132, x133, x134, x135, x136, x137, x138, x139, x140, x141, x142, x143, x144, x145, x146, x147, x148, x149, x150, x151, x152, x153, x154, x155, x156, x157, x158, x159, x160, x161, x162, x163, x164, x165, x166, x167, x168, x169, x170, x171, x172, x173, x174, x175, x176, x177, x178, x179, x180, x181, x182, x183, x184, x185, x186, x187, x188, x189, x190, x191, x192, x193, x194, x195, x196, x197, x198, x199, x200, x201], defers := ds } w := by
  obtain rfl : ops = _ := Option.some.inj (hops.symm.trans rfl)
  clear hops
  obtain ⟨u0, l0⟩ := hl 0 (by omega)
  obtain ⟨u1, l1⟩ := hl 1 (by omega)
  obtain ⟨u2, l2⟩ := hl 2 (by omega)
  obtain ⟨u3, l3⟩ := hl 3 (by omega)
  obtain ⟨u4, l4⟩ := hl 4 (by omega)
  obtain ⟨u5, l5⟩ := hl 5 (by omega)
  obtain ⟨u6, l6⟩ := hl 6 (by omega)
  obtain ⟨u7, l7⟩ := hl 7 (by omega)
  obtain ⟨u8, l8⟩ := hl 8 (by omega)
  obtain ⟨u9, l9⟩ := hl 9 (by omega)
  obtain ⟨u10, l10⟩ := hl 10 (by omega)
  obtain ⟨u11, l11⟩ := hl 11 (by omega)
  obtain ⟨u12, l12⟩ := hl 12 (by omega)
  obtain ⟨hfr, hrg⟩ := set13 w lb 0 (.bool true) (.bool (ind == col)) (.bool false) (.bool false) (.bool af) (.int .i64 (IntKind.i64.wrap (IntKind.i64.wrap (tk + q) - hd))) (.int .i64 ch) (.int .i64 offs) (.int .i64 line) (.int .i64 col) (.int .i64 ta) (.int .i64 tb) (.int .i64 tc) (fun x hx => by rw [Nat.zero_add]; exact hl x hx)
  simp only [Nat.zero_add] at hfr hrg
  have Hfr := (show Hid _ from hfr)
  have Hrg := (show Hid _ from hrg)
  clear hl hfr hrg
  refine wp_region_noPanic ?_
  refine wp_region_held_drew (S := (fun w' => w'.cell? ⟨ib, 1, none⟩ = some (.int .i64 ind) ∧ w'.cell? ⟨ib, 2, none⟩ = some (.int .i64 col) ∧ w'.cell? ⟨ib, 5, none⟩ = some (.bool af) ∧ w'.cell? ⟨ib, 9, none⟩ = some (.int .i64 tk) ∧ w'.cell? ⟨ib, 12, none⟩ = some (.int .i64 ch) ∧
    w'.cell? ⟨mb, 0, none⟩ = some (.int .i64 offs) ∧ w'.cell? ⟨mb, 1, none⟩ = some (.int .i64 line) ∧ w'.cell? ⟨mb, 2, none⟩ = some (.int .i64 col) ∧ w'.cell? ⟨mb + 1, 0, none⟩ = some (.int .i64 ta) ∧ w'.cell? ⟨mb + 1, 1, none⟩ = some (.int .i64 tb) ∧ w'.cell? ⟨mb + 1, 2, none⟩ = some (.int .i64 tc))) (by kernel_rfl) ⟨y1, y2, y5, y9, y12, m0, m1, m2, t0, t1, t2⟩ (fun hHeld => ?_)
  refine take0 (v := ?_) (by kernel_rfl) (by kernel_rfl) (by kernel_rfl) (fun _ _ _ h => h) (Or.inl ⟨by rfl, ?_⟩) (by assumption) ?_
  rotate_left
  · intro w hSw; (try dsimp only at hSw); go_simp; try with_reducible rfl
  try simp only [Act.put, List.setIfInBounds_toArray, List.set_cons_zero, List.set_cons_succ]
  refine take1 (v := ?_) (by kernel_rfl) (by kernel_rfl) (by kernel_rfl) (fun _ _ _ h => h) (Or.inl ⟨by rfl, ?_⟩) (by assumption) ?_
  rotate_left
  · intro w hSw; (try dsimp only at hSw); go_simp; try with_reducible rfl
  try simp only [Act.put, List.setIfInBounds_toArray, List.set_cons_zero, List.set_cons_succ]
  refine take2 (v := ?_) (by kernel_rfl) (by kernel_rfl) (by kernel_rfl) (fun _ _ _ h => h) (Or.inl ⟨by rfl, ?_⟩) (by assumption) ?_
  rotate_left
  · intro w hSw; (try dsimp only at hSw); go_simp; try with_reducible rfl
  try simp only [Act.put, List.setIfInBounds_toArray, List.set_cons_zero, List.set_cons_succ]
  refine take3 (v := ?_) (by kernel_rfl) (by kernel_rfl) (by kernel_rfl) (fun _ _ _ h => h) (Or.inl ⟨by rfl, ?_⟩) (by assumption) ?_
  rotate_left
  · intro w hSw; (try dsimp only at hSw); go_simp; try with_reducible rfl
  try simp only [Act.put, List.setIfInBounds_toArray, List.set_cons_zero, List.set_cons_succ]
  refine take4 (v := ?_) (by kernel_rfl) (by kernel_rfl) (by kernel_rfl) (fun _ _ _ h => h) (Or.inl ⟨by rfl, ?_⟩) (by assumption) ?_
  rotate_left
  · intro w hSw; (try dsimp only at hSw); go_simp; try with_reducible rfl
  try simp only [Act.put, List.setIfInBounds_toArray, List.set_cons_zero, List.set_cons_succ]
  refine take5 (v := ?_) (by kernel_rfl) (by kernel_rfl) (by kernel_rfl) (fun _ _ _ h => h) (Or.inl ⟨by rfl, ?_⟩) (by assumption) ?_
  rotate_left
  · intro w hSw; (try dsimp only at hSw); go_simp; try with_reducible rfl
  try simp only [Act.put, List.setIfInBounds_toArray, List.set_cons_zero, List.set_cons_succ]
  refine take6 (v := ?_) (by kernel_rfl) (by kernel_rfl) (by kernel_rfl) (fun _ _ _ h => h) (Or.inl ⟨by rfl, ?_⟩) (by assumption) ?_
  rotate_left
  · intro w hSw; (try dsimp only at hSw); go_simp; try with_reducible rfl
  try simp only [Act.put, List.setIfInBounds_toArray, List.set_cons_zero, List.set_cons_succ]
  refine take7 (v := ?_) (by kernel_rfl) (by kernel_rfl) (by kernel_rfl) (fun _ _ _ h => h) (Or.inl ⟨by rfl, ?_⟩) (by assumption) ?_
  rotate_left
  · intro w hSw; (try dsimp only at hSw); go_simp; try with_reducible rfl
  try simp only [Act.put, List.setIfInBounds_toArray, List.set_cons_zero, List.set_cons_succ]
  refine take8 (v := undef) (by kernel_rfl) (by kernel_rfl) (by kernel_rfl) (fun _ _ _ h => h) (Or.inr ⟨by rfl, rfl⟩) (by assumption) ?_
  try simp only [Act.put, List.setIfInBounds_toArray, List.set_cons_zero, List.set_cons_succ]
  refine take9 (v := undef) (by kernel_rfl) (by kernel_rfl) (by kernel_rfl) (fun _ _ _ h => h) (Or.inr ⟨by rfl, rfl⟩) (by assumption) ?_
  try simp only [Act.put, List.setIfInBounds_toArray, List.set_cons_zero, List.set_cons_succ]
  refine take10 (v := undef) (by kernel_rfl) (by kernel_rfl) (by kernel_rfl) (fun _ _ _ h => h) (Or.inr ⟨by rfl, rfl⟩) (by assumption) ?_
  try simp only [Act.put, List.setIfInBounds_toArray, List.set_cons_zero, List.set_cons_succ]
  refine take11 (v := undef) (by kernel_rfl) (by kernel_rfl) (by kernel_rfl) (fun _ _ _ h => h) (Or.inr ⟨by rfl, rfl⟩) (by assumption) ?_
  try simp only [Act.put, List.setIfInBounds_toArray, List.set_cons_zero, List.set_cons_succ]
  refine take12 (v := undef) (by kernel_rfl) (by kernel_rfl) (by kernel_rfl) (fun _ _ _ h => h) (Or.inr ⟨by rfl, rfl⟩) (by assumption) ?_
  try simp only [Act.put, List.setIfInBounds_toArray, List.set_cons_zero, List.set_cons_succ]
  refine take13 (v := undef) (by kernel_rfl) (by kernel_rfl) (by kernel_rfl) (fun _ _ _ h => h) (Or.inr ⟨by rfl, rfl⟩) (by assumption) ?_
  try simp only [Act.put, List.setIfInBounds_toArray, List.set_cons_zero, List.set_cons_succ]
  refine take14 (v := undef) (by kernel_rfl) (by kernel_rfl) (by kernel_rfl) (fun _ _ _ h => h) (Or.inr ⟨by rfl, rfl⟩) (by assumption) ?_
  try simp only [Act.put, List.setIfInBounds_toArray, List.set_cons_zero, List.set_cons_succ]
  refine take15 (v := undef) (by kernel_rfl) (by kernel_rfl) (by kernel_rfl) (fun _ _ _ h => h) (Or.inr ⟨by rfl, rfl⟩) (by assumption) ?_
  try simp only [Act.put, List.setIfInBounds_toArray, List.set_cons_zero, List.set_cons_succ]
  refine take16 (v := ?_) (by kernel_rfl) (by kernel_rfl) (by kernel_rfl) (fun _ _ _ h => h) (Or.inl ⟨by rfl, ?_⟩) (by assumption) ?_
  rotate_left
  · intro w hSw; (try dsimp only at hSw); go_simp; try with_reducible rfl
  try simp only [Act.put, List.setIfInBounds_toArray, List.set_cons_zero, List.set_cons_succ]
  refine take17 (v := ?_) (by kernel_rfl) (by kernel_rfl) (by kernel_rfl) (fun _ _ _ h => h) (Or.inl ⟨by rfl, ?_⟩) (by assumption) ?_
  rotate_left
  · intro w hSw; (try dsimp only at hSw); go_simp; try with_reducible rfl
  try simp only [Act.put, List.setIfInBounds_toArray, List.set_cons_zero, List.set_cons_succ]
  refine take18 (v := ?_) (by kernel_rfl) (by kernel_rfl) (by kernel_rfl) (fun _ _ _ h => h) (Or.inl ⟨by rfl, ?_⟩) (by assumption) ?_
  rotate_left
  · intro w hSw; (try dsimp only at hSw); go_simp; try with_reducible rfl
  try simp only [Act.put, List.setIfInBounds_toArray, List.set_cons_zero, List.set_cons_succ]
  refine take19 (v := ?_) (by kernel_rfl) (by kernel_rfl) (by kernel_rfl) (fun _ _ _ h => h) (Or.inl ⟨by rfl, ?_⟩) (by assumption) ?_
  rotate_left
  · intro w hSw; (try dsimp only at hSw); go_simp; try with_reducible rfl
  try simp only [Act.put, List.setIfInBounds_toArray, List.set_cons_zero, List.set_cons_succ]
  refine take20 (v := ?_) (by kernel_rfl) (by kernel_rfl) (by kernel_rfl) (fun _ _ _ h => h) (Or.inl ⟨by rfl, ?_⟩) (by assumption) ?_
  rotate_left
  · intro w hSw; (try dsimp only at hSw); go_simp; try with_reducible rfl
  try simp only [Act.put, List.setIfInBounds_toArray, List.set_cons_zero, List.set_cons_succ]
  refine take21 (v := ?_) (by kernel_rfl) (by kernel_rfl) (by kernel_rfl) (fun _ _ _ h => h) (Or.inl ⟨by rfl, ?_⟩) (by assumption) ?_
  rotate_left
  · intro w hSw; (try dsimp only at hSw); go_simp; try with_reducible rfl
  try simp only [Act.put, List.setIfInBounds_toArray, List.set_cons_zero, List.set_cons_succ]
  refine take22 (v := ?_) (by kernel_rfl) (by kernel_rfl) (by kernel_rfl) (fun _ _ _ h => h) (Or.inl ⟨by rfl, ?_⟩) (by assumption) ?_
  rotate_left
  · intro w hSw; (try dsimp only at hSw); go_simp; try with_reducible rfl
  try simp only [Act.put, List.setIfInBounds_toArray, List.set_cons_zero, List.set_cons_succ]
  refine take23 (v := ?_) (by kernel_rfl) (by kernel_rfl) (by kernel_rfl) (fun _ _ _ h => h) (Or.inl ⟨by rfl, ?_⟩) (by assumption) ?_
  rotate_left
  · intro w hSw; (try dsimp only at hSw); go_simp; try with_reducible rfl
  try simp only [Act.put, List.setIfInBounds_toArray, List.set_cons_zero, List.set_cons_succ]
  refine take24 (v := ?_) (by kernel_rfl) (by kernel_rfl) (by kernel_rfl) (fun _ _ _ h => h) (Or.inl ⟨by rfl, ?_⟩) (by assumption) ?_
  rotate_left
  · intro w hSw; (try dsimp only at hSw); go_simp; try with_reducible rfl
  try simp only [Act.put, List.setIfInBounds_toArray, List.set_cons_zero, List.set_cons_succ]
  refine take25 (v := ?_) (by kernel_rfl) (by kernel_rfl) (by kernel_rfl) (fun _ _ _ h => h) (Or.inl ⟨by rfl, ?_⟩) (by assumption) ?_
  rotate_left
  · intro w hSw; (try dsimp only at hSw); go_simp; try with_reducible rfl
  try simp only [Act.put, List.setIfInBounds_toArray, List.set_cons_zero, List.set_cons_succ]
  refine take26 (v := ?_) (by kernel_rfl) (by kernel_rfl) (by kernel_rfl) (fun _ _ _ h => h) (Or.inl ⟨by rfl, ?_⟩) (by assumption) ?_
  rotate_left
  · intro w hSw; (try dsimp only at hSw); go_simp; try with_reducible rfl
  try simp only [Act.put, List.setIfInBounds_toArray, List.set_cons_zero, List.set_cons_succ]
  refine take27 (v := ?_) (by kernel_rfl) (by kernel_rfl) (by kernel_rfl) (fun _ _ _ h => h) (Or.inl ⟨by rfl, ?_⟩) (by assumption) ?_
  rotate_left
  · intro w hSw; (try dsimp only at hSw); go_simp; try with_reducible rfl
  try simp only [Act.put, List.setIfInBounds_toArray, List.set_cons_zero, List.set_cons_succ]
  refine take28 (v := ?_) (by kernel_rfl) (by kernel_rfl) (by kernel_rfl) (fun _ _ _ h => h) (Or.inl ⟨by rfl, ?_⟩) (by assumption) ?_
  rotate_left
  · intro w hSw; (try dsimp only at hSw); go_simp; try with_reducible rfl
  try simp only [Act.put, List.setIfInBounds_toArray, List.set_cons_zero, List.set_cons_succ]
  refine take29 (v := ?_) (by kernel_rfl) (by kernel_rfl) (by kernel_rfl) (fun _ _ _ h => h) (Or.inl ⟨by rfl, ?_⟩) (by assumption) ?_
  rotate_left
  · intro w hSw; (try dsimp only at hSw); go_simp; try with_reducible rfl
  try simp only [Act.put, List.setIfInBounds_toArray, List.set_cons_zero, List.set_cons_succ]
  refine last30 (by kernel_rfl) (fun K hK => ?_)
  go_simp
  refine hK.out _ _ ?_ (fun hHeld => ?_)
  · go_keep
  clear hK K
  try simp only [Act.put, List.setIfInBounds_toArray, List.set_cons_zero, List.set_cons_succ]
  refine wpAnyH_done (by kernel_rfl) ?_ _
  refine NoPanic.normal (hQ _ _ _ _ _ _ _ _ _ _ _ _ _ _ _ _ _ _ _ _ _ _ _ _ _ _ _ _ _ _ _ (Hfr.out.below (Nat.le_refl _)).drew ((size_drew _).trans Hfr.out.size) (fun i v hv => ?_))
  rw [cell_drew]
  exact Hrg.out i v hv


set_option maxRecDepth 100000 in
set_option maxHeartbeats 8000000 in
theorem reg39_pos (ops : Array Oper) (hops : Yba.f3.body.bind (findR 39) = some ops) (Q : Exit → Act → World → Prop) (ib mb lb q : Nat) (hd ind col line offs ta tb tc tk ch : Int) (af : Bool) (x0 x2 x4 x5 x6 x7 x12 x13 x14 x16 x17 x18 x19 x20 x21 x22 x23 x24 x25 x26 x27 x28 x29 x30 x31 x32 x33 x34 x35 x36 x37 x38 x39 x40 x41 x42 x43 x44 x45 x46 x47 x48 x49 x50 x51 x52 x53 x54 x55 x56 x57 x58 x59 x60 x61 x62 x63 x64 x65 x66 x67 x68 x69 x70 x71 x72 x73 x74 x75 x76 x77 x78 x79 x80 x81 x82 x83 x84 x85 x86 x87 x88 x89 x90 x91 x92 x93 x94 x95 x96 x97 x98 x99 x100 x101 x102 x103 x104 x105 x106 x107 x108 x109 x110 x111 x112 x113 x114 x115 x116 x117 x118 x119 x120 x121 x122 x123 x124 x125 x126 x127 x128 x129 x130 x131 x132 x133 x134 x135 x136 x137 x138 x139 x140 x141 x142 x143 x144 x145 x146 x147 x148 x149 x150 x151 x152 x153 x154 x155 x156 x157 x158 x159 x160 x161 x162 x163 x164 x165 x166 x167 x168 x169 x170 x171 x172 x173 x174 x175 x176 x177 x178 x179 x180 x181 x182 x183 x184 x185 x186 x187 x188 x189 x190 x191 x192 x193 x194 x195 x196 x197 x198 x199 x200 x201 : Value) (ds : List Deferred) (w : World)
    (y1 : w.cell? ⟨ib, 1, none⟩ = some (.int .i64 ind)) (y2 : w.cell? ⟨ib, 2, none⟩ = some (.int .i64 col)) (y5 : w.cell? ⟨ib, 5, none⟩ = some (.bool af)) (y9 : w.cell? ⟨ib, 9, none⟩ = some (.int .i64 tk)) (y12 : w.cell? ⟨ib, 12, none⟩ = some (.int .i64 ch))
    (m0 : w.cell? ⟨mb, 0, none⟩ = some (.int .i64 offs)) (m1 : w.cell? ⟨mb, 1, none⟩ = some (.int .i64 line)) (m2 : w.cell? ⟨mb, 2, none⟩ = some (.int .i64 col))
    (t0 : w.cell? ⟨mb + 1, 0, none⟩ = some (.int .i64 ta)) (t1 : w.cell? ⟨mb + 1, 1, none⟩ = some (.int .i64 tb)) (t2 : w.cell? ⟨mb + 1, 2, none⟩ = some (.int .i64 tc))
    (hl : ∀ o, o < 13 → ∃ v, w.cell? ⟨lb, o, none⟩ = some v) (lfz : ∀ o, w.frozen? ⟨lb, o, none⟩ = false) (d1 : ib ≠ lb) (d2 : mb ≠ lb) (d3 : mb + 1 ≠ lb) (e1 : lb ≠ ib) (e2 : lb ≠ mb) (e3 : lb ≠ mb + 1)
    (j : Nat) (fb fo fc : Nat) (z : Int) (y14 : w.cell? ⟨ib, 14, none⟩ = some (.slice (some ⟨fb, fo, none⟩) j fc)) (hfy : w.cell? ⟨fb, fo + (j - 1), none⟩ = some (.int .u8 z)) (d5 : fb ≠ lb) (e5 : lb ≠ fb) (hj0' : (0 : Int) < (j : Int)) (hj1' : (0 : Int) ≤ (j : Int) - 1) (hj2' : (j : Int) - 1 < (j : Int)) (hj3' : ((j : Int) - 1).toNat = j - 1) (hw1' : wrap64 ((j : Int) - 1) = (j : Int) - 1) (hw2' : IntKind.i64.wrap ((j : Int) - 1) = (j : Int) - 1) (hz0 : 0 ≤ z) (hj0 : 0 < j) (hj4' : (1 : Int) ≤ (j : Int)) (hj5' : 1 ≤ j)
    (hQ : ∀ (z163 z164 z165 z166 z167 z168 z169 z170 z171 z172 z173 z174 z175 z176 z177 z178 z179 z180 z181 z182 z183 z184 z185 z186 z187 z188 z189 z190 z191 z192 : Value) (wf : World), Below lb w wf → wf.heap.size = w.heap.size → wf.rangeAt lb 0 [.bool true, .bool (ind == col), .bool (z.tmod 2 == 1), .bool false, .bool af, .int .i64 (IntKind.i64.wrap (IntKind.i64.wrap (tk + q) - hd)), .int .i64 ch, .int .i64 offs, .int .i64 line, .int .i64 col, .int .i64 ta, .int .i64 tb, .int .i64 tc] → Q .normal { tmps := #[x0, .pointer (some ⟨ib, 0, none⟩), x2, .int .i64 j, x4, x5, x6, x7, .int .i64 q, .int .i64 hd, .pointer (some ⟨mb, 0, none⟩), .pointer (some ⟨mb + 1, 0, none⟩), x12, x13, x14, .pointer (some ⟨lb, 0, none⟩), x16, x17, x18, x19, x20, x21, x22, x23, x24, x25, x26, x27, x28, x29, x30, x31, x32, x33, x34, x35, x36, x37, x38, x39, x40, x41, x42, x43, x44, x45, x46, x47, x48, x49, x50, x51, x52, x53, x54, x55, x56, x57, x58, x59, x60, x61, x62, x63, x64, x65, x66, x67, x68, x69, x70, x71, x72, x73, x74, x75, x76, x77, x78, x79, x80, x81, x82, x83, x84, x85, x86, x87, x88, x89, x90, x91, x92, x93, x94, x95, x96, x97, x98, x99, x100, x101, x102, x103, x104, x105, x106, x107, x108, x109, x110, x111, x112, x113, x114, x115, x116, x117, x118, x119, x120, x121, x122, x123, x124, x125, x126, x127, x128, x129, x130, x131, x132, x133, x134, x135, x136, x137, x138, x139, x140, x141, x142, x143, x144, x145, x146, x147, x148, x149, x150, x151, x152, x153, x154, x155, x156, x157, x158, x159, x160, x161, x162, z163, z164, z165, z166, z167, z168, z169, z170, z171, z172, z173, z174, z175, z176, z177, z178, z179, z180, z181, z182, z183, z184, z185, z186, z187, z188, z189, z190, z191, z192, x193, x194, x195, x196, x197, x198, x199, x200, x201], defers := ds } wf) :
    (Code.region 39 ops true).wp Yba.prog Q { tmps := #[x0, .pointer (some ⟨ib, 0, none⟩), x2, .int .i64 j, x4, x5, x6, x7, .int .i64 q, .int .i64 hd, .pointer (some ⟨mb, 0, none⟩), .pointer (some ⟨mb + 1, 0, none⟩), x12, x13, x14, .pointer (some ⟨lb, 0, none⟩), x16, x17, x18, x19, x20, x21, x22, x23, x24, x25, x26, x27, x28, x29, x30, x31, x32, x33, x34, x35, x36, x37, x38, x39, x40, x41, x42, x43, x44, x45, x46, x47, x48, x49, x50, x51, x52, x53, x54, x55, x56, x57, x58, x59, x60, x61, x62, x63, x64, x65, x66, x67, x68, x69, x70, x71, x72, x73, x74, x75, x76, x77, x78, x79, x80, x81, x82, x83, x84, x85, x86, x87, x88, x89, x90, x91, x92, x93, x94, x95, x96, x97, x98, x99, x100, x101, x102, x103, x104, x105, x106, x107, x108, x109, x110, x111, x112, x113, x114, x115, x116, x117, x118, x119, x120, x121, x122, x123, x124, x125, x126, x127, x128, x129, x130, x131, x132, x133, x134, x135, x136, x137, x138, x139, x140, x141, x142, x143, x144, x145, x146, x147, x148, x149, x150, x151, x152, x153, x154, x155, x156, x157, x158, x159, x160, x161, x162, x163, x164, x165, x166, x167, x168, x169, x170, x171, x172, x173, x174, x175, x176, x177, x178, x179, x180, x181, x182, x183, x184, x185, x186, x187, x188, x189, x190, x191, x192, x193, x194, x195, x196, x197, x198, x199, x200, x201], defers := ds } w := by
  obtain rfl : ops = _ := Option.some.inj (hops.symm.trans rfl)
  clear hops
  obtain ⟨u0, l0⟩ := hl 0 (by omega)
  obtain ⟨u1, l1⟩ := hl 1 (by omega)
  obtain ⟨u2, l2⟩ := hl 2 (by omega)
  obtain ⟨u3, l3⟩ := hl 3 (by omega)
  obtain ⟨u4, l4⟩ := hl 4 (by omega)
  obtain ⟨u5, l5⟩ := hl 5 (by omega)
  obtain ⟨u6, l6⟩ := hl 6 (by omega)
  obtain ⟨u7, l7⟩ := hl 7 (by omega)
  obtain ⟨u8, l8⟩ := hl 8 (by omega)
  obtain ⟨u9, l9⟩ := hl 9 (by omega)
  obtain ⟨u10, l10⟩ := hl 10 (by omega)
  obtain ⟨u11, l11⟩ := hl 11 (by omega)
  obtain ⟨u12, l12⟩ := hl 12 (by omega)
  obtain ⟨hfr, hrg⟩ := set13 w lb 0 (.bool true) (.bool (ind == col)) (.bool (z.tmod 2 == 1)) (.bool false) (.bool af) (.int .i64 (IntKind.i64.wrap (IntKind.i64.wrap (tk + q) - hd))) (.int .i64 ch) (.int .i64 offs) (.int .i64 line) (.int .i64 col) (.int .i64 ta) (.int .i64 tb) (.int .i64 tc) (fun x hx => by rw [Nat.zero_add]; exact hl x hx)
  simp only [Nat.zero_add] at hfr hrg
  have Hfr := (show Hid _ from hfr)
  have Hrg := (show Hid _ from hrg)
  clear hl hfr hrg
  go_region_held3 (fun w' => w'.cell? ⟨ib, 1, none⟩ = some (.int .i64 ind) ∧ w'.cell? ⟨ib, 2, none⟩ = some (.int .i64 col) ∧ w'.cell? ⟨ib, 5, none⟩ = some (.bool af) ∧ w'.cell? ⟨ib, 9, none⟩ = some (.int .i64 tk) ∧ w'.cell? ⟨ib, 12, none⟩ = some (.int .i64 ch) ∧ w'.cell? ⟨ib, 14, none⟩ = some (.slice (some ⟨fb, fo, none⟩) j fc) ∧
    w'.cell? ⟨mb, 0, none⟩ = some (.int .i64 offs) ∧ w'.cell? ⟨mb, 1, none⟩ = some (.int .i64 line) ∧ w'.cell? ⟨mb, 2, none⟩ = some (.int .i64 col) ∧ w'.cell? ⟨mb + 1, 0, none⟩ = some (.int .i64 ta) ∧ w'.cell? ⟨mb + 1, 1, none⟩ = some (.int .i64 tb) ∧ w'.cell? ⟨mb + 1, 2, none⟩ = some (.int .i64 tc) ∧ w'.cell? ⟨fb, fo + (j - 1), none⟩ = some (.int .u8 z)) (go_keep) (fail)
  refine hQ _ _ _ _ _ _ _ _ _ _ _ _ _ _ _ _ _ _ _ _ _ _ _ _ _ _ _ _ _ _ _ (Hfr.out.below (Nat.le_refl _)).drew ((size_drew _).trans Hfr.out.size) (fun i v hv => ?_)
  rw [cell_drew]
  exact Hrg.out i v hv


end Go.Proofs.Ybulkaakm.Save
