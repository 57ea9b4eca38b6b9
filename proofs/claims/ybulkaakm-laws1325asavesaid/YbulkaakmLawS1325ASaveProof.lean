/-
  THE PROOF OF 'Rows.LawS1325ASaveSaid': the frame over 'Save.law_any' (YbulkaakmSaveW): a struct by value of fifteen fields of one cell.
-/
import Derived.Test.YbulkaakmRows
import Derived.Test.YbulkaakmSaveW
import Derived.WalkKit
import Derived.ProofKit
import Derived.OpenShut
import Derived.ChangeOld
import Derived.Below
import Derived.Deep.Slices
namespace Go.Proofs.Ybulkaakm.lawS1325ASave
open Go.ChangeShapes Go.WideShapes Go.ChangeAt Go.RowKit Go.Deep Save

theorem own : ownKnob Yba.prog.godebug = none := by kernel_rfl
theorem laidOut : laidOutB Yba.prog = true := by kernel_rfl
theorem cells24 : Yba.prog.cellsOf 24 = 15 := by kernel_rfl
theorem cells4 : Yba.prog.cellsOf 4 = 1 := by kernel_rfl
theorem cells3 : Yba.prog.cellsOf 3 = 1 := by kernel_rfl
theorem cells5 : Yba.prog.cellsOf 5 = 1 := by kernel_rfl
theorem cells22 : Yba.prog.cellsOf 22 = 1 := by kernel_rfl

/-- A row of cells that came in: where there is a cell, the address is a plain one. -/
theorem holds_cells {w : World} {a : Addr} {len : Nat} {f : Nat → Value} (h : ∀ i, i < len → w.cell? (a.add i) = some (f i)) : Holds w (some a) len f := by
  intro i hi
  obtain ⟨b, off, spot⟩ := a
  have h0 := h 0 (by omega)
  have hi' := h i hi
  cases spot with
  | none =>
    refine ⟨b, off, rfl, ?_⟩
    unfold Addr.add at hi'
    split at hi'
    · rename_i e; subst e; exact hi'
    · exact hi'
  | some s =>
    unfold World.cell? at h0
    split at h0
    · simp [Addr.add] at h0
    · cases h0

theorem array15 {cs : Array Value} (h : cs.size = 15) : ∃ c0 c1 c2 c3 c4 c5 c6 c7 c8 c9 c10 c11 c12 c13 c14, cs = #[c0, c1, c2, c3, c4, c5, c6, c7, c8, c9, c10, c11, c12, c13, c14] := by
  obtain ⟨l⟩ := cs
  match l, h with
  | [c0, c1, c2, c3, c4, c5, c6, c7, c8, c9, c10, c11, c12, c13, c14], _ => exact ⟨c0, c1, c2, c3, c4, c5, c6, c7, c8, c9, c10, c11, c12, c13, c14, rfl⟩

theorem got {α : Type} {xs : List α} {n i : Nat} (h : xs.length = n) (hi : i < n) : ∃ x, xs[i]? = some x := ⟨xs[i], List.getElem?_eq_getElem (by omega)⟩

theorem u8 {n : Int} (h : (Lit.int .u8 n).wf = true) : 0 ≤ n ∧ n ≤ 255 := by
  simp only [Lit.wf, Bool.and_eq_true, decide_eq_true_eq] at h
  exact h

/-- The fifteen fields, opened. -/
theorem opened {H : Type} {enc : TypeId × Value → H} {W : World} {r : Reach} {b0 : Nat} {v : Value} {d : DataW H} {p : List MemPlace} (hv : Value.okWide Yba.prog W r b0 24 v) (h : DataW.Trod enc Yba.prog W 0 (fun _ => true) true 24 v d p) :
    ∃ (ka : Bool) (ind col line offs : Int) (af : Bool) (ta tb tc tk ql hd0 ch lo : Int) (fa : Option Addr) (n fc : Nat) (Z : Nat → Int), v = .agg (inC ka ind col line offs af ta tb tc tk ql hd0 ch lo (.slice fa n fc)) ∧ (0 ≤ ql ∧ ql ≤ 255) ∧ (0 ≤ hd0 ∧ hd0 ≤ 255) ∧
      n ≤ maxLen ∧ Holds W fa n (fun j => .int .u8 (Z j)) ∧ ∀ j, j < n → 0 ≤ Z j ∧ Z j ≤ 255 := by
  obtain ⟨cs, rfl, hsz⟩ := okWide_struct Yba.underlying24 hv
  obtain ⟨c0, c1, c2, c3, c4, c5, c6, c7, c8, c9, c10, c11, c12, c13, c14, rfl⟩ := array15 (hsz.trans cells24)
  obtain ⟨fuel, hf⟩ := h
  obtain ⟨xs, m, _, _, _, hxl, hfl⟩ := DataW.trod_struct Yba.underlying24 hf
  have hxl : xs.length = 15 := hxl
  obtain ⟨x0, g0⟩ := got hxl (i := 0) (by omega)
  have t0 : DataW.trod enc Yba.prog W 0 (fun _ => true) true m 4 [c0] = some x0 := by
    rw [← g0]
    have this : DataW.trod enc Yba.prog W 0 (fun _ => true) true m 4 (([c0, c1, c2, c3, c4, c5, c6, c7, c8, c9, c10, c11, c12, c13, c14].drop 0).take (Yba.prog.cellsOf 4)) = xs[0]? := hfl 0 _ rfl
    rw [cells4] at this
    exact this
  obtain ⟨ka, e0, _⟩ := DataW.trod_bool Yba.underlying4 t0
  obtain ⟨x1, g1⟩ := got hxl (i := 1) (by omega)
  have t1 : DataW.trod enc Yba.prog W 0 (fun _ => true) true m 3 [c1] = some x1 := by
    rw [← g1]
    have this : DataW.trod enc Yba.prog W 0 (fun _ => true) true m 3 (([c0, c1, c2, c3, c4, c5, c6, c7, c8, c9, c10, c11, c12, c13, c14].drop 1).take (Yba.prog.cellsOf 3)) = xs[1]? := hfl 1 _ rfl
    rw [cells3] at this
    exact this
  obtain ⟨ind, e1, _, _⟩ := DataW.trod_int Yba.underlying3 t1
  obtain ⟨x2, g2⟩ := got hxl (i := 2) (by omega)
  have t2 : DataW.trod enc Yba.prog W 0 (fun _ => true) true m 3 [c2] = some x2 := by
    rw [← g2]
    have this : DataW.trod enc Yba.prog W 0 (fun _ => true) true m 3 (([c0, c1, c2, c3, c4, c5, c6, c7, c8, c9, c10, c11, c12, c13, c14].drop 2).take (Yba.prog.cellsOf 3)) = xs[2]? := hfl 2 _ rfl
    rw [cells3] at this
    exact this
  obtain ⟨col, e2, _, _⟩ := DataW.trod_int Yba.underlying3 t2
  obtain ⟨x3, g3⟩ := got hxl (i := 3) (by omega)
  have t3 : DataW.trod enc Yba.prog W 0 (fun _ => true) true m 3 [c3] = some x3 := by
    rw [← g3]
    have this : DataW.trod enc Yba.prog W 0 (fun _ => true) true m 3 (([c0, c1, c2, c3, c4, c5, c6, c7, c8, c9, c10, c11, c12, c13, c14].drop 3).take (Yba.prog.cellsOf 3)) = xs[3]? := hfl 3 _ rfl
    rw [cells3] at this
    exact this
  obtain ⟨line, e3, _, _⟩ := DataW.trod_int Yba.underlying3 t3
  obtain ⟨x4, g4⟩ := got hxl (i := 4) (by omega)
  have t4 : DataW.trod enc Yba.prog W 0 (fun _ => true) true m 3 [c4] = some x4 := by
    rw [← g4]
    have this : DataW.trod enc Yba.prog W 0 (fun _ => true) true m 3 (([c0, c1, c2, c3, c4, c5, c6, c7, c8, c9, c10, c11, c12, c13, c14].drop 4).take (Yba.prog.cellsOf 3)) = xs[4]? := hfl 4 _ rfl
    rw [cells3] at this
    exact this
  obtain ⟨offs, e4, _, _⟩ := DataW.trod_int Yba.underlying3 t4
  obtain ⟨x5, g5⟩ := got hxl (i := 5) (by omega)
  have t5 : DataW.trod enc Yba.prog W 0 (fun _ => true) true m 4 [c5] = some x5 := by
    rw [← g5]
    have this : DataW.trod enc Yba.prog W 0 (fun _ => true) true m 4 (([c0, c1, c2, c3, c4, c5, c6, c7, c8, c9, c10, c11, c12, c13, c14].drop 5).take (Yba.prog.cellsOf 4)) = xs[5]? := hfl 5 _ rfl
    rw [cells4] at this
    exact this
  obtain ⟨af, e5, _⟩ := DataW.trod_bool Yba.underlying4 t5
  obtain ⟨x6, g6⟩ := got hxl (i := 6) (by omega)
  have t6 : DataW.trod enc Yba.prog W 0 (fun _ => true) true m 3 [c6] = some x6 := by
    rw [← g6]
    have this : DataW.trod enc Yba.prog W 0 (fun _ => true) true m 3 (([c0, c1, c2, c3, c4, c5, c6, c7, c8, c9, c10, c11, c12, c13, c14].drop 6).take (Yba.prog.cellsOf 3)) = xs[6]? := hfl 6 _ rfl
    rw [cells3] at this
    exact this
  obtain ⟨ta, e6, _, _⟩ := DataW.trod_int Yba.underlying3 t6
  obtain ⟨x7, g7⟩ := got hxl (i := 7) (by omega)
  have t7 : DataW.trod enc Yba.prog W 0 (fun _ => true) true m 3 [c7] = some x7 := by
    rw [← g7]
    have this : DataW.trod enc Yba.prog W 0 (fun _ => true) true m 3 (([c0, c1, c2, c3, c4, c5, c6, c7, c8, c9, c10, c11, c12, c13, c14].drop 7).take (Yba.prog.cellsOf 3)) = xs[7]? := hfl 7 _ rfl
    rw [cells3] at this
    exact this
  obtain ⟨tb, e7, _, _⟩ := DataW.trod_int Yba.underlying3 t7
  obtain ⟨x8, g8⟩ := got hxl (i := 8) (by omega)
  have t8 : DataW.trod enc Yba.prog W 0 (fun _ => true) true m 3 [c8] = some x8 := by
    rw [← g8]
    have this : DataW.trod enc Yba.prog W 0 (fun _ => true) true m 3 (([c0, c1, c2, c3, c4, c5, c6, c7, c8, c9, c10, c11, c12, c13, c14].drop 8).take (Yba.prog.cellsOf 3)) = xs[8]? := hfl 8 _ rfl
    rw [cells3] at this
    exact this
  obtain ⟨tc, e8, _, _⟩ := DataW.trod_int Yba.underlying3 t8
  obtain ⟨x9, g9⟩ := got hxl (i := 9) (by omega)
  have t9 : DataW.trod enc Yba.prog W 0 (fun _ => true) true m 3 [c9] = some x9 := by
    rw [← g9]
    have this : DataW.trod enc Yba.prog W 0 (fun _ => true) true m 3 (([c0, c1, c2, c3, c4, c5, c6, c7, c8, c9, c10, c11, c12, c13, c14].drop 9).take (Yba.prog.cellsOf 3)) = xs[9]? := hfl 9 _ rfl
    rw [cells3] at this
    exact this
  obtain ⟨tk, e9, _, _⟩ := DataW.trod_int Yba.underlying3 t9
  obtain ⟨x10, g10⟩ := got hxl (i := 10) (by omega)
  have t10 : DataW.trod enc Yba.prog W 0 (fun _ => true) true m 5 [c10] = some x10 := by
    rw [← g10]
    have this : DataW.trod enc Yba.prog W 0 (fun _ => true) true m 5 (([c0, c1, c2, c3, c4, c5, c6, c7, c8, c9, c10, c11, c12, c13, c14].drop 10).take (Yba.prog.cellsOf 5)) = xs[10]? := hfl 10 _ rfl
    rw [cells5] at this
    exact this
  obtain ⟨ql, e10, _, w10⟩ := DataW.trod_int Yba.underlying5 t10
  obtain ⟨x11, g11⟩ := got hxl (i := 11) (by omega)
  have t11 : DataW.trod enc Yba.prog W 0 (fun _ => true) true m 5 [c11] = some x11 := by
    rw [← g11]
    have this : DataW.trod enc Yba.prog W 0 (fun _ => true) true m 5 (([c0, c1, c2, c3, c4, c5, c6, c7, c8, c9, c10, c11, c12, c13, c14].drop 11).take (Yba.prog.cellsOf 5)) = xs[11]? := hfl 11 _ rfl
    rw [cells5] at this
    exact this
  obtain ⟨hd0, e11, _, w11⟩ := DataW.trod_int Yba.underlying5 t11
  obtain ⟨x12, g12⟩ := got hxl (i := 12) (by omega)
  have t12 : DataW.trod enc Yba.prog W 0 (fun _ => true) true m 3 [c12] = some x12 := by
    rw [← g12]
    have this : DataW.trod enc Yba.prog W 0 (fun _ => true) true m 3 (([c0, c1, c2, c3, c4, c5, c6, c7, c8, c9, c10, c11, c12, c13, c14].drop 12).take (Yba.prog.cellsOf 3)) = xs[12]? := hfl 12 _ rfl
    rw [cells3] at this
    exact this
  obtain ⟨ch, e12, _, _⟩ := DataW.trod_int Yba.underlying3 t12
  obtain ⟨x13, g13⟩ := got hxl (i := 13) (by omega)
  have t13 : DataW.trod enc Yba.prog W 0 (fun _ => true) true m 3 [c13] = some x13 := by
    rw [← g13]
    have this : DataW.trod enc Yba.prog W 0 (fun _ => true) true m 3 (([c0, c1, c2, c3, c4, c5, c6, c7, c8, c9, c10, c11, c12, c13, c14].drop 13).take (Yba.prog.cellsOf 3)) = xs[13]? := hfl 13 _ rfl
    rw [cells3] at this
    exact this
  obtain ⟨lo, e13, _, _⟩ := DataW.trod_int Yba.underlying3 t13
  obtain ⟨x14, g14⟩ := got hxl (i := 14) (by omega)
  have t14 : DataW.trod enc Yba.prog W 0 (fun _ => true) true m 22 [c14] = some x14 := by
    rw [← g14]
    have this : DataW.trod enc Yba.prog W 0 (fun _ => true) true m 22 (([c0, c1, c2, c3, c4, c5, c6, c7, c8, c9, c10, c11, c12, c13, c14].drop 14).take (Yba.prog.cellsOf 22)) = xs[14]? := hfl 14 _ rfl
    rw [cells22] at this
    exact this
  clear hfl hf t0 t1 t2 t3 t4 t5 t6 t7 t8 t9 t10 t11 t12 t13
  obtain rfl : c0 = _ := List.head_eq_of_cons_eq e0
  obtain rfl : c1 = _ := List.head_eq_of_cons_eq e1
  obtain rfl : c2 = _ := List.head_eq_of_cons_eq e2
  obtain rfl : c3 = _ := List.head_eq_of_cons_eq e3
  obtain rfl : c4 = _ := List.head_eq_of_cons_eq e4
  obtain rfl : c5 = _ := List.head_eq_of_cons_eq e5
  obtain rfl : c6 = _ := List.head_eq_of_cons_eq e6
  obtain rfl : c7 = _ := List.head_eq_of_cons_eq e7
  obtain rfl : c8 = _ := List.head_eq_of_cons_eq e8
  obtain rfl : c9 = _ := List.head_eq_of_cons_eq e9
  obtain rfl : c10 = _ := List.head_eq_of_cons_eq e10
  obtain rfl : c11 = _ := List.head_eq_of_cons_eq e11
  obtain rfl : c12 = _ := List.head_eq_of_cons_eq e12
  obtain rfl : c13 = _ := List.head_eq_of_cons_eq e13
  rcases open_ints Yba.underlying22 Yba.underlying5 cells5 t14 with ⟨hcs, _⟩ | ⟨x, l, c, zs, hcs, _, hl, hm, hz, _, hcell, hwz⟩
  · obtain rfl : c14 = _ := List.head_eq_of_cons_eq hcs
    exact ⟨ka, ind, col, line, offs, af, ta, tb, tc, tk, ql, hd0, ch, lo, none, 0, 0, fun _ => 0, rfl, u8 w10, u8 w11, Nat.zero_le _, fun i hi => by omega, fun i hi => by omega⟩
  · obtain rfl : c14 = _ := List.head_eq_of_cons_eq hcs
    simp only [if_true] at hz
    refine ⟨ka, ind, col, line, offs, af, ta, tb, tc, tk, ql, hd0, ch, lo, some x, l, c, fun i => zs.getD i 0, rfl, u8 w10, u8 w11, Nat.le_trans hl hm, holds_cells (fun i hi => hcell i (by omega)), fun i hi => ?_⟩
    have hi' : i < zs.length := by omega
    refine u8 (hwz _ ?_)
    show zs.getD i 0 ∈ zs
    rw [List.getD_eq_getElem?_getD, List.getElem?_eq_getElem hi', Option.getD_some]
    exact List.getElem_mem hi'

set_option maxRecDepth 100000 in
theorem lifted (os : Os) (started : os.Started) (H : Type) (enc : TypeId × Value → H) :
    ReturnsInHanded {} Yba.checked os 3 .any (Rows.lawS1325ASaveSpec.pre6 enc Yba.prog Yba.f3 Rows.lawS1325ASaveRow.domain false) (Rows.lawS1325ASaveSpec.post enc Yba.prog Yba.f3 false true false false) := by
  refine returnsInHanded_of_change (C := Yba.checked) own started (by kernel_rfl) Yba.func3
    (ChangeSpec.witness6 (enc := enc) (C := Yba.checked) false ⟨#[], #[.agg #[.bool false, .int .i64 0, .int .i64 0, .int .i64 0, .int .i64 0, .bool false, .int .i64 0, .int .i64 0, .int .i64 0, .int .i64 0, .int .u8 0, .int .u8 0, .int .i64 0, .int .i64 0, .slice none 0 0]], []⟩ 8 (by kernel_rfl) (by kernel_rfl) (by kernel_rfl) (by kernel_rfl)) ?_
  intro W base args ds gs before hval0 hW hcnd _
  have hval : ∀ (j : Nat) t v, Yba.f3.params[j]? = some t → args[j]? = some v → Value.okWide Yba.prog W .any base t v := hval0
  have hW' := hW
  obtain ⟨p, q, hA0, hV, rfl, hfz, hnd⟩ := hW
  have hA : DataW.TrodAll enc Yba.prog W 0 (fun _ => true) true Yba.f3.params.toList args.toList ds p := hA0
  rw [Yba.params3] at hA hval
  obtain ⟨v0, vs0, d0, ds0, p0, q0, hargs, rfl, rfl, k0, r0⟩ := trodAll_cons hA
  obtain ⟨rfl, rfl, rfl⟩ := trodAll_nil r0
  obtain rfl : args = #[v0] := by cases args; simp_all
  obtain ⟨rfl, rfl⟩ := trodVars_none hV
  have lt0 : ∀ x ∈ p0, x.block < W.heap.size := by obtain ⟨g, hg⟩ := k0; exact DataW.trod_lt g _ _ _ hg
  obtain ⟨ka, ind, col, line, offs, af, ta, tb, tc, tk, ql, hd0, ch, lo, fa, n, fc, Z, rfl, hq, hh, hn, hF, hz⟩ := opened (hval 0 24 v0 rfl rfl) k0
  obtain ⟨q, rfl⟩ := Int.eq_ofNat_of_zero_le hq.1
  clear hA0 hval0
  refine (law_any ka ind col line offs af ta tb tc tk hd0 ch lo q fa n fc Z W hn (by omega) hh.1 hh.2 hF hz).mono fun e W' ⟨he, bel⟩ => ?_
  subst he
  exact ⟨_, rfl, _, _, _, [], _, [], hW', trodAll_mk1 (shut_bool Yba.underlying4 _), (trodAll_cons_mk (Below.trod laidOut (by kernel_rfl) (of_decide_eq_true (by kernel_rfl)) k0 bel lt0) trodAll_mk0), rfl, bel.frame _, fun h => by cases h⟩

theorem proved : Rows.LawS1325ASaveSaid :=
  OpenClaim.holds_of_wide 3 Yba.f3 rfl rfl rfl rfl rfl rfl rfl ⟨rfl, rfl, rfl, rfl, rfl⟩ rfl rfl rfl rfl rfl (by kernel_rfl) Yba.func3 (by kernel_rfl)
    (of_decide_eq_true (by kernel_rfl)) (by unfold Func.isWrapper; first | (rw [if_pos (by decide +kernel)]; kernel_rfl) | (rw [if_neg (by decide +kernel)]; exact ⟨rfl, rfl⟩))
    (fun os started H enc _ => lifted os started H enc)

end Go.Proofs.Ybulkaakm.lawS1325ASave
