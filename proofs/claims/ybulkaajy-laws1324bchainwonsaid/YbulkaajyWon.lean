/-
  (*span).won (8) on a chain of spans, and small laws on pointers.
-/
import Derived.Test.YbulkaajyLocks
import Derived.Deep.LoopGhost
import Derived.LaidEqlPtr
namespace Go.Proofs.Ybulkaajy
open Go.RowKit Go.MuLone

/-- All of 1 .. n. -/
def allTo (ch : Nat → Bool) (n : Nat) : Bool := (List.range n).all fun i => ch (i + 1)

theorem allTo_true (ch : Nat → Bool) (n : Nat) (h : ∀ i, 0 < i → i ≤ n → ch i = true) : allTo ch n = true := by
  unfold allTo
  rw [List.all_eq_true]
  intro i hi
  exact h (i + 1) (by omega) (by have := List.mem_range.1 hi; omega)

theorem allTo_false (ch : Nat → Bool) (n k : Nat) (h0 : 0 < k) (hk : k ≤ n) (h : ch k = false) : allTo ch n = false := by
  unfold allTo
  rw [List.all_eq_false]
  refine ⟨k - 1, List.mem_range.2 (by omega), ?_⟩
  rw [show k - 1 + 1 = k from by omega, h]
  simp

set_option maxHeartbeats 800000 in
theorem won_any (sp : Nat → Nat) (ch : Nat → Bool) (n : Nat) (w : World) (h0 : w.cell? ⟨sp 0, 1, none⟩ = some (.pointer none))
    (hp : ∀ k, k < n → w.cell? ⟨sp (k + 1), 1, none⟩ = some (.pointer (some ⟨sp k, 0, none⟩))) (hc : ∀ k, k < n → w.cell? ⟨sp (k + 1), 11, none⟩ = some (.bool (ch (k + 1)))) :
    Calls Yba.prog 8 #[.pointer (some ⟨sp n, 0, none⟩)] w fun e w' => e = .returned (.bool (allTo ch n)) ∧ w' = w := by
  go_enter Yba.func8, Yba.ntmps8
  go_wp2
  go_loopg [0] n (fun k p wr => k ≤ n ∧ p = .pointer (some ⟨sp k, 0, none⟩) ∧ (∀ i, k < i → i ≤ n → ch i = true) ∧ wr = w)
  case atStart => exact ⟨Nat.le_refl _, rfl, fun i h1 h2 => by omega, rfl⟩
  case round =>
    obtain ⟨hk, rfl, hall, rfl⟩ := hrel
    cases gk with
    | zero =>
      go_wp2
      go_ret
      exact ⟨by rw [allTo_true ch n (fun i h1 h2 => hall i h1 h2)]; rfl, rfl⟩
    | succ k =>
      have hpk := hp k (by omega)
      have hck := hc k (by omega)
      cases hb : ch (k + 1) with
      | false =>
        rw [hb] at hck
        go_wp2
        go_ret
        exact ⟨by rw [allTo_false ch n (k + 1) (by omega) hk hb]; rfl, rfl⟩
      | true =>
        rw [hb] at hck
        go_wp2
        go_roundg k
        case measure => omega
        case rel =>
          refine ⟨by omega, rfl, fun i h1 h2 => ?_, rfl⟩
          by_cases e : i = k + 1
          · rw [e]; exact hb
          · exact hall i (by omega) h2

end Go.Proofs.Ybulkaajy
