/-
  THE PROOF OF 'Rows.LawS1324BChainWonSaid'.
-/
import Derived.Test.YbulkaajyRows
import Derived.Test.YbulkaajyChainW
import Derived.WalkKit
import Derived.ProofKit
import Derived.OpenShut
import Derived.ChangeOld
import Derived.Below
import Derived.Deep.Slices
namespace Go.Proofs.Ybulkaajy.lawS1324BChainWon
open Go.ChangeShapes Go.WideShapes Go.ChangeAt Go.RowKit Go.Deep

theorem own : ownKnob Yba.prog.godebug = none := by kernel_rfl
theorem laidOut : laidOutB Yba.prog = true := by kernel_rfl
theorem cells4 : Yba.prog.cellsOf 4 = 1 := by kernel_rfl

/-- A row of cells that came in: where there is a cell, the address is a plain one. -/
theorem holds_cells {w : World} {a : Addr} {len : Nat} {f : Nat → Value} (h : ∀ i, i < len → w.cell? (a.add i) = some (f i)) : Holds w (some a) len f := by
  intro i hi
  obtain ⟨b, off, spot⟩ := a
  have h0 := h 0 (by omega)
  have hi' := h i hi
  cases spot with
  | none =>
    refine ⟨b, off, rfl, ?_⟩
    unfold Addr.add at hi'
    split at hi'
    · rename_i e; subst e; exact hi'
    · exact hi'
  | some s =>
    unfold World.cell? at h0
    split at h0
    · simp [Addr.add] at h0
    · cases h0

theorem open_bools {H : Type} {enc : TypeId × Value → H} {W : World} {a : Option Addr} {n c : Nat} {d : DataW H} {p : List MemPlace} (h : DataW.Trod enc Yba.prog W 0 (fun _ => true) true 46 (.slice a n c) d p) :
    ∃ f : Nat → Bool, n ≤ maxLen ∧ Holds W a n (fun i => .bool (f i)) := by
  obtain ⟨fuel, hf⟩ := h
  rcases open_slice1 Yba.underlying46 cells4 hf with ⟨hcs, _⟩ | ⟨x, len, cap, m, g, V, D, Pl, hcs, _, hl, hm, hmm, _, hx⟩
  · simp [Value.cells] at hcs
    obtain ⟨rfl, rfl, rfl⟩ := hcs
    exact ⟨fun _ => false, Nat.zero_le _, fun i hi => by omega⟩
  · simp [Value.cells] at hcs
    obtain ⟨rfl, rfl, rfl⟩ := hcs
    simp only [if_true] at hmm
    obtain ⟨f, hfv⟩ := choose_lt (α := Bool) (n := n) (p := fun i b => W.cell? (x.add i) = some (.bool b)) (fun i hi => by
      obtain ⟨h1, h2⟩ := hx i (by omega)
      obtain ⟨b, hb, _⟩ := DataW.trod_bool Yba.underlying4 h2
      simp at hb
      exact ⟨b, by rw [h1, hb]⟩)
    exact ⟨f, Nat.le_trans hl hm, holds_cells hfv⟩

set_option maxRecDepth 100000 in
theorem lifted (os : Os) (started : os.Started) (H : Type) (enc : TypeId × Value → H) :
    ReturnsInHanded {} Yba.checked os 4 .any (Rows.lawS1324BChainWonSpec.pre6 enc Yba.prog Yba.f4 Rows.lawS1324BChainWonRow.domain false) (Rows.lawS1324BChainWonSpec.post enc Yba.prog Yba.f4 false true false false) := by
  refine returnsInHanded_of_change (C := Yba.checked) own started (by kernel_rfl) Yba.func4
    (ChangeSpec.witness6 (enc := enc) (C := Yba.checked) false ⟨#[], #[.slice none 0 0, .slice none 0 0], []⟩ 8 (by kernel_rfl) (by kernel_rfl) (by kernel_rfl) (by kernel_rfl)) ?_
  intro W base args ds gs before hval0 hW hcnd _
  have hval : ∀ (j : Nat) t v, Yba.f4.params[j]? = some t → args[j]? = some v → Value.okWide Yba.prog W .any base t v := hval0
  have hW' := hW
  obtain ⟨p, q, hA0, hV, rfl, hfz, hnd⟩ := hW
  have hA : DataW.TrodAll enc Yba.prog W 0 (fun _ => true) true Yba.f4.params.toList args.toList ds p := hA0
  rw [Yba.params4] at hA hval
  obtain ⟨v0, v1, d0, d1, p0, p1, rfl, rfl, rfl, k0, k1⟩ := trodAll_two hA
  obtain ⟨rfl, rfl⟩ := trodVars_none hV
  obtain ⟨a0, n, c0, rfl⟩ := okWide_slice Yba.underlying46 (hval 0 46 v0 rfl rfl)
  obtain ⟨a1, m, c1, rfl⟩ := okWide_slice Yba.underlying46 (hval 1 46 v1 rfl rfl)
  have lt0 : ∀ x ∈ p0, x.block < W.heap.size := by obtain ⟨g, hg⟩ := k0; exact DataW.trod_lt g _ _ _ hg
  have lt1 : ∀ x ∈ p1, x.block < W.heap.size := by obtain ⟨g, hg⟩ := k1; exact DataW.trod_lt g _ _ _ hg
  obtain ⟨ini, hn, h0⟩ := open_bools k0
  obtain ⟨pk, hm, h1⟩ := open_bools k1
  clear hA0 hval0
  refine (chain_any a0 n c0 ini a1 m c1 pk W hn hm h0 h1).mono fun e W' ⟨he, bel⟩ => ?_
  subst he
  exact ⟨_, rfl, _, _, _, [], _, [], hW', trodAll_mk1 (shut_bool Yba.underlying4 _), (trodAll_cons_mk (Below.trod laidOut (by kernel_rfl) (of_decide_eq_true (by kernel_rfl)) k0 bel lt0) (trodAll_cons_mk (Below.trod laidOut (by kernel_rfl) (of_decide_eq_true (by kernel_rfl)) k1 bel lt1) trodAll_mk0)), rfl, bel.frame _, fun h => by cases h⟩

theorem proved : Rows.LawS1324BChainWonSaid :=
  OpenClaim.holds_of_wide 4 Yba.f4 rfl rfl rfl rfl rfl rfl rfl ⟨rfl, rfl, rfl, rfl, rfl⟩ rfl rfl rfl rfl rfl (by kernel_rfl) Yba.func4 (by kernel_rfl)
    (of_decide_eq_true (by kernel_rfl)) (by unfold Func.isWrapper; first | (rw [if_pos (by decide +kernel)]; kernel_rfl) | (rw [if_neg (by decide +kernel)]; exact ⟨rfl, rfl⟩))
    (fun os started H enc _ => lifted os started H enc)

end Go.Proofs.Ybulkaajy.lawS1324BChainWon
