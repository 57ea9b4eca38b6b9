/-
  THE CARD 'Rows.LawS1323ANoSharedCodeToldSaid', PROVED.
-/
import Derived.Test.YbulkaajkFmtCards
import Derived.Test.YbulkaajkFmtW5
import Derived.Deep.Matrix
import Derived.ProofKit
import Derived.ChangeSlices
import Derived.ChangeSame
import Derived.JoinedOf
import Derived.Carry
import Derived.Stop.JoinedAt
import Derived.Stop.JoinedTold
import Derived.SevenToldRow
import Derived.OpenShut
namespace Go.Proofs.YbulkaajkFmt
open Go.ChangeShapes Go.WideShapes Go.ChangeAt Go.RowKit Go.Kit Go.Deep
open Go.Extern.Stop Go.Stop Go.Extern

theorem own : ownKnob Ybaf.prog.godebug = none := by kernel_rfl
theorem laidOut : laidOutB Ybaf.pinned.checked.prog = true := by kernel_rfl
theorem stops : Ybaf.pinned.checked.prog.stops = ["fmt.errorf"] := by kernel_rfl
theorem stopKnobs : Ybaf.pinned.checked.prog.stopKnobs = [] := by kernel_rfl
theorem quiet (os : Os) : Stop.quiet Ybaf.pinned.checked.prog os := by
  intro k hk
  rw [stopKnobs] at hk
  cases hk
theorem cells23 : Ybaf.prog.cellsOf 23 = 1 := by kernel_rfl
theorem cells5 : Ybaf.prog.cellsOf 5 = 1 := by kernel_rfl

/-- A row of cells that came in: where there is a cell, the address is a plain one. -/
theorem holds_cells {w : World} {a : Addr} {len : Nat} {f : Nat → Value} (h : ∀ i, i < len → w.cell? (a.add i) = some (f i)) : Holds w (some a) len f := by
  intro i hi
  obtain ⟨b, off, spot⟩ := a
  have h0 := h 0 (by omega)
  have hi' := h i hi
  cases spot with
  | none =>
    refine ⟨b, off, rfl, ?_⟩
    unfold Addr.add at hi'
    split at hi'
    · rename_i e; subst e; exact hi'
    · exact hi'
  | some s =>
    unfold World.cell? at h0
    split at h0
    · simp [Addr.add] at h0
    · cases h0

theorem byte_bounds {n : Int} (h : (Lit.int .u8 n).wf = true) : 0 ≤ n ∧ n ≤ 255 := by
  have := bounds_u8 h
  omega

set_option maxRecDepth 100000 in
theorem lifted (os : Os) (started : os.Started) (H : Type) (enc : TypeId × Value → H) :
    ReturnsInTold none {} Ybaf.checked os 3 .any Input.okWide ((OpenSpec.ofChange Rows.lawS1323ANoSharedCodeSpec).preRow enc Ybaf.prog Ybaf.f3 [] false [])
      (fun F => ((OpenSpec.ofChange Rows.lawS1323ANoSharedCodeSpec).at F).post enc Ybaf.prog Ybaf.f3 false true false false) (aloneAtReturn Ybaf.prog) nothingAlways := by
  refine returnsInTold_of_row (C := Ybaf.checked) (s := OpenSpec.ofChange Rows.lawS1323ANoSharedCodeSpec) (by kernel_rfl) own started (by kernel_rfl) Ybaf.func3
    (OpenSpec.witness_stopped (enc := enc) (C := Ybaf.checked) false ⟨#[], #[.slice none 0 0, .slice none 0 0, .int .u8 0], []⟩ 8 (by kernel_rfl) (by kernel_rfl) (by kernel_rfl) (by kernel_rfl)) ?_
  intro F W base args ds gs before _ hF hval0 hW _ _ hsz _ _
  have hval : ∀ (j : Nat) t v, Ybaf.f3.params[j]? = some t → args[j]? = some v → Value.okWide Ybaf.prog W .any base t v := hval0
  have hW' := hW
  obtain ⟨p, q, hA0, hV, rfl, _, _⟩ := hW
  have hA : DataW.TrodAll enc Ybaf.prog W 0 (fun _ => true) true Ybaf.f3.params.toList args.toList ds p := hA0
  rw [Ybaf.params3] at hA hval
  obtain ⟨v0, v1, v2, d0, d1, d2, p0, p1, p2, rfl, rfl, rfl, t0, t1, t2⟩ := trodAll_three hA
  obtain ⟨rfl, rfl⟩ := trodVars_none hV
  obtain ⟨a0, n, c0, rfl⟩ := okWide_slice Ybaf.underlying22 (hval 0 22 v0 rfl rfl)
  obtain ⟨a1, m, c1, rfl⟩ := okWide_slice Ybaf.underlying23 (hval 1 23 v1 rfl rfl)
  obtain ⟨sel, rfl, rfl, rfl, ws⟩ := open_int Ybaf.underlying5 (hval 2 5 v2 rfl rfl) t2
  have k0 := t0
  have k1 := t1
  have lt0 : ∀ x ∈ p0, x.block < W.heap.size := by obtain ⟨g, hg⟩ := k0; exact DataW.trod_lt g _ _ _ hg
  have lt1 : ∀ x ∈ p1, x.block < W.heap.size := by obtain ⟨g, hg⟩ := k1; exact DataW.trod_lt g _ _ _ hg
  clear hA0 hval0
  obtain ⟨A, L, C, Z, hn, g1, g2, g3⟩ : ∃ (A : Nat → Option Addr) (L C : Nat → Nat) (Z : Nat → Nat → Int), n ≤ maxLen ∧ Holds W a0 n (fun i => .slice (A i) (L i) (C i)) ∧ (∀ i, i < n → L i ≤ maxLen ∧ Holds W (A i) (L i) (fun j => .int .u8 (Z i j))) ∧ ∀ i j, i < n → j < L i → 0 ≤ Z i j ∧ Z i j ≤ 255 := by
    obtain ⟨fuel, hf⟩ := t0
    rcases open_int_rows Ybaf.underlying22 Ybaf.underlying23 Ybaf.underlying5 cells23 cells5 hf with ⟨hcs, _⟩ | ⟨a, len, cap, A, L, C, Z, hcs, _, hl, hm, _, hx⟩
    · simp [Value.cells] at hcs
      obtain ⟨rfl, rfl, rfl⟩ := hcs
      exact ⟨fun _ => none, fun _ => 0, fun _ => 0, fun _ _ => 0, Nat.zero_le _, fun i hi => by omega, fun i hi => by omega, fun i j hi => by omega⟩
    · simp [Value.cells] at hcs
      obtain ⟨rfl, rfl, rfl⟩ := hcs
      refine ⟨A, L, C, fun i j => (Z i).getD j 0, Nat.le_trans hl hm, fun i hi => ?_, fun i hi => ?_, fun i j hi hj => ?_⟩
      · exact holds_cells (fun r hr => (hx r (by omega)).1) i hi
      · obtain ⟨_, h2, h3, h4, h5, h6, h7⟩ := hx i (by omega)
        refine ⟨Nat.le_trans h2 h3, fun j hj => ?_⟩
        cases hAi : A i with
        | none => have := h6 hAi; omega
        | some a' =>
          exact holds_cells (fun c hc => (h7 a' hAi).2 c (by omega)) j hj
      · obtain ⟨_, h2, h3, h4, h5, h6, h7⟩ := hx i (by omega)
        have hjl : j < (Z i).length := by omega
        have : (Z i).getD j 0 ∈ Z i := by simp [List.getD, hjl]
        exact byte_bounds (h5 _ this)
  obtain ⟨Rq, hm, g4, g5⟩ : ∃ Rq : Nat → Int, m ≤ maxLen ∧ Holds W a1 m (fun j => .int .u8 (Rq j)) ∧ ∀ j, j < m → 0 ≤ Rq j ∧ Rq j ≤ 255 := by
    obtain ⟨fuel, hf⟩ := t1
    rcases open_ints Ybaf.underlying23 Ybaf.underlying5 cells5 hf with ⟨hcs, _⟩ | ⟨a, len, cap, zs, hcs, _, hl, hm, hz, _, hcell, hwz⟩
    · simp [Value.cells] at hcs
      obtain ⟨rfl, rfl, rfl⟩ := hcs
      exact ⟨fun _ => 0, Nat.zero_le _, fun i hi => by omega, fun j hj => by omega⟩
    · simp [Value.cells] at hcs
      obtain ⟨rfl, rfl, rfl⟩ := hcs
      simp only [if_true] at hz
      refine ⟨fun j => zs.getD j 0, Nat.le_trans hl hm, holds_cells (fun i hi => hcell i (by omega)), fun j hj => ?_⟩
      have hjl : j < zs.length := by omega
      have : zs.getD j 0 ∈ zs := by simp [List.getD, hjl]
      exact byte_bounds (hwz _ this)
  have bs := byte_bounds ws
  refine (law_any F.told a0 n c0 A L C Z a1 m c1 Rq sel W hF hn hm (fun i hi => (g2 i hi).1) g1 (fun i hi => (g2 i hi).2) g3 g4 g5 bs.1 bs.2).mono fun e W' ⟨he, bel⟩ => ?_
  subst he
  exact ⟨_, rfl, _, _, _, [], _, [], hW', trodAll_mk1 (shut_bool Ybaf.underlying4 _), (trodAll_cons_mk (Below.trod laidOut (by kernel_rfl) (of_decide_eq_true (by kernel_rfl)) k0 bel lt0) (trodAll_cons_mk (Below.trod laidOut (by kernel_rfl) (of_decide_eq_true (by kernel_rfl)) k1 bel lt1) (trodAll_cons_mk (shut_int Ybaf.underlying5 ws) trodAll_mk0))), rfl, bel.frame _, fun h => by cases h⟩

theorem proved : Rows.LawS1323ANoSharedCodeToldSaid :=
  Claim7.holds_of_told_any 3 Ybaf.f3 "fmt.errorf" [] [] _ _ _ (by kernel_rfl) rfl rfl rfl laidOut (by kernel_rfl) rfl ⟨rfl, rfl, rfl, rfl, rfl, rfl, rfl⟩ rfl rfl (by kernel_rfl) (by kernel_rfl) Ybaf.func3 (by kernel_rfl)
    (of_decide_eq_true (by kernel_rfl)) (of_decide_eq_true (by kernel_rfl)) stops.symm rfl stopKnobs.symm (by kernel_rfl)
    (by kernel_rfl) (by kernel_rfl) (by kernel_rfl) (by kernel_rfl) (by kernel_rfl) (by kernel_rfl) (by kernel_rfl) (by kernel_rfl) (by kernel_rfl) rfl (by kernel_rfl) rfl rfl
    rfl rfl
    rfl (by kernel_rfl) (by kernel_rfl) (by kernel_rfl) (by decide) (by kernel_rfl)
    (OpenClaim.moreEntering_of (by kernel_rfl) (by kernel_rfl) (by kernel_rfl) (by kernel_rfl) (by kernel_rfl) (by kernel_rfl) (by kernel_rfl) (by kernel_rfl) (by kernel_rfl) (by kernel_rfl))
    ⟨_, WideRow.started_initial, quiet _⟩
    (fun os started _ H enc _ => lifted os started H enc)

end Go.Proofs.YbulkaajkFmt
