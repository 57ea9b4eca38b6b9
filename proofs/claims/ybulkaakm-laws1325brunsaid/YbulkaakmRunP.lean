/-
  LawS1325BRun: THE PLAIN LAW: which places are noted; what the reader holds behind i rounds.
-/
import Derived.Test.YbulkaakmSkip
namespace Go.Proofs.Ybulkaakm
open Go.RowKit

/-- The places below n whose bit is set. -/
def ks (bit : Nat → Bool) (n : Nat) : List Nat := (List.range n).filter bit

theorem ks_succ (bit : Nat → Bool) (k : Nat) : ks bit (k + 1) = if bit k then ks bit k ++ [k] else ks bit k := by
  unfold ks
  rw [List.range_succ, List.filter_append]
  cases h : bit k <;> simp [h]

theorem ks_le (bit : Nat → Bool) (k : Nat) : (ks bit k).length ≤ k := by
  unfold ks
  have := List.length_filter_le bit (List.range k)
  simpa using this

theorem ks_bit (bit : Nat → Bool) (n x : Nat) (h : x ∈ ks bit n) : bit x = true := (List.mem_filter.1 h).2

theorem ks_prefix (bit : Nat → Bool) (i : Nat) : ∀ n, i ≤ n → ∃ r, ks bit n = ks bit i ++ r := by
  intro n
  induction n with
  | zero =>
    intro h
    obtain rfl : i = 0 := by omega
    exact ⟨[], by simp⟩
  | succ n ih =>
    intro h
    by_cases e : i = n + 1
    · exact ⟨[], by rw [e]; simp⟩
    · obtain ⟨r, hr⟩ := ih (by omega)
      rw [ks_succ]
      cases bit n
      · exact ⟨r, by simpa using hr⟩
      · exact ⟨r ++ [n], by simp [hr]⟩

theorem ks_hit (bit : Nat → Bool) (n i : Nat) (hi : i < n) (hb : bit i = true) : (ks bit i).length < (ks bit n).length ∧ (ks bit n).getD (ks bit i).length 0 = i := by
  obtain ⟨r, hr⟩ := ks_prefix bit (i + 1) n (by omega)
  rw [ks_succ, if_pos hb] at hr
  rw [hr]
  simp

theorem ks_miss (bit : Nat → Bool) (n i : Nat) (hb : bit i = false) (hl : (ks bit i).length < (ks bit n).length) : (ks bit n).getD (ks bit i).length 0 ≠ i := by
  intro e
  have hm : (ks bit n).getD (ks bit i).length 0 ∈ ks bit n := by simp [List.getD, hl]
  rw [e] at hm
  rw [ks_bit bit n i hm] at hb
  cases hb

theorem wrap_small (x : Int) (h0 : -9223372036854775808 ≤ x) (h1 : x ≤ 9223372036854775807) : wrap64 x = x := by
  unfold wrap64; omega

theorem wrap_add (a b : Int) : wrap64 (wrap64 a + b) = wrap64 (a + b) := by
  unfold wrap64; omega

/-- The reader behind i rounds, c of them at a CR LF. -/
def rdAt (unit off line : Int) (cs : Value) (i c : Nat) : Obj :=
  rdObj unit i (wrap64 (off + unit * ((i : Int) + (c : Int)))) (wrap64 (line + i)) (if i = 0 then 5 else 0) i cs c

theorem rdAt_zero (unit off line : Int) (cs : Value) (h1 : wrap64 off = off) (h2 : wrap64 line = line) : rdObj unit 0 off line 5 0 cs 0 = rdAt unit off line cs 0 0 := by
  unfold rdAt
  simp [h1, h2]

theorem rdAt_hit (unit off line : Int) (cs : Value) (i c : Nat) (hi : i < 64) :
    rdObj unit (wrap64 ((i : Int) + 1)) (wrap64 (wrap64 (off + unit * ((i : Int) + (c : Int))) + unit * 2)) (wrap64 (wrap64 (line + i) + 1)) 0 (wrap64 ((i : Int) + 1)) cs ((c : Int) + 1) = rdAt unit off line cs (i + 1) (c + 1) := by
  have e1 : wrap64 ((i : Int) + 1) = ((i + 1 : Nat) : Int) := by rw [wrap_small _ (by omega) (by omega)]; omega
  have e2 : wrap64 (wrap64 (off + unit * ((i : Int) + (c : Int))) + unit * 2) = wrap64 (off + unit * (((i + 1 : Nat) : Int) + ((c + 1 : Nat) : Int))) := by
    rw [wrap_add, Int.add_assoc, ← Int.mul_add]
    congr 3
    omega
  have e3 : wrap64 (wrap64 (line + i) + 1) = wrap64 (line + ((i + 1 : Nat) : Int)) := by
    rw [wrap_add, Int.add_assoc]; congr 2
  have e4 : ((c : Int) + 1) = ((c + 1 : Nat) : Int) := by omega
  unfold rdAt
  rw [e1, e2, e3, e4, if_neg (by omega)]

theorem rdAt_miss (unit off line : Int) (cs : Value) (i c : Nat) (hi : i < 64) :
    rdObj unit (wrap64 ((i : Int) + 1)) (wrap64 (wrap64 (off + unit * ((i : Int) + (c : Int))) + unit)) (wrap64 (wrap64 (line + i) + 1)) 0 (wrap64 ((i : Int) + 1)) cs (c : Int) = rdAt unit off line cs (i + 1) c := by
  have e1 : wrap64 ((i : Int) + 1) = ((i + 1 : Nat) : Int) := by rw [wrap_small _ (by omega) (by omega)]; omega
  have e2 : wrap64 (wrap64 (off + unit * ((i : Int) + (c : Int))) + unit) = wrap64 (off + unit * (((i + 1 : Nat) : Int) + (c : Int))) := by
    have : off + unit * ((i : Int) + (c : Int)) + unit = off + unit * (((i + 1 : Nat) : Int) + (c : Int)) := by
      rw [show (((i + 1 : Nat) : Int) + (c : Int)) = ((i : Int) + (c : Int)) + 1 from by omega, Int.mul_add unit ((i : Int) + (c : Int)) 1, Int.mul_one, Int.add_assoc]
    rw [wrap_add, this]
  have e3 : wrap64 (wrap64 (line + i) + 1) = wrap64 (line + ((i + 1 : Nat) : Int)) := by
    rw [wrap_add, Int.add_assoc]; congr 2
  unfold rdAt
  rw [e1, e2, e3, if_neg (by omega)]

end Go.Proofs.Ybulkaakm
