/-
  THE LEAVES' CONTRACTS: zzs1323acode (4), slices.Index (8) and slices.Contains (6) at []string.
-/
import Derived.Test.YbulkaajkFmtRows
import Derived.WalkKit
import Derived.WalkSpells
import Derived.WalkLawsBesides
import Derived.Lib.SlicesS
namespace Go.Proofs.YbulkaajkFmt
open Go.RowKit

theorem ret_bool {a b : Bool} (h : a = b) : Ending.returned (.bool a) = .returned (.bool b) := by rw [h]

/-- What 'zzs1323acode' gives. -/
def codeOf (b : Int) : ByteArray :=
  if b % 5 = 0 then ⟨#[97]⟩ else if b % 5 = 1 then ⟨#[98]⟩ else if b % 5 = 2 then ⟨#[99]⟩ else if b % 5 = 3 then ⟨#[100]⟩ else ⟨#[101]⟩

set_option maxHeartbeats 400000 in
theorem code_any (b : Int) (h0 : 0 ≤ b) (h1 : b ≤ 255) (w : World) :
    Calls Ybaf.prog 4 #[.int .u8 b] w fun e w' => e = .returned (.string (codeOf b)) ∧ w' = w := by
  go_enter Ybaf.func4, Ybaf.ntmps4
  go_wp2
  all_goals (go_ret; exact ⟨by simp_all [codeOf], rfl⟩)

/-- The strings 'ss' lie in block b of w, from cell 0 on. -/
def StrsAt (w : World) (b : Nat) (ss : List ByteArray) : Prop := ∀ i, i < ss.length → w.cell? ⟨b, i, none⟩ = some (.string (ss.getD i ByteArray.empty))

set_option maxHeartbeats 400000 in
theorem index_any (b : Nat) (ss : List ByteArray) (cap : Nat) (x : ByteArray) (w : World) (hl : ss.length ≤ 1024) (hc : StrsAt w b ss) :
    Calls Ybaf.prog 8 #[.slice (some ⟨b, 0, none⟩) ss.length cap, .string x] w fun e w' => (∃ r : Int, e = .returned (.int .i64 r) ∧ (0 ≤ r ↔ x ∈ ss)) ∧ w' = w := by
  go_enter Ybaf.func8, Ybaf.ntmps8
  go_wp2
  go_loop [8] (fun i => ∃ k : Nat, k ≤ ss.length ∧ i = .int .i64 k ∧ x ∉ ss.take k) (fun i => ss.length - (intOf i).toNat)
  case atStart => exact ⟨0, Nat.zero_le _, rfl, by simp⟩
  case round =>
    obtain ⟨k, hk, rfl, hn⟩ := hrel
    by_cases hlt : k < ss.length
    · have hcell := hc k hlt
      go_wp2
      · have hx : (x.toList == ss[k].toList) = true := by assumption
        go_ret
        refine ⟨⟨k, rfl, ?_⟩, rfl⟩
        have := (Lib.bytes_beq_iff _ _).1 hx
        simp [this]
      · have hx : (x.toList == ss[k].toList) = false := by assumption
        have := (Lib.bytes_beq_false_iff _ _).1 hx
        refine ⟨⟨k + 1, by omega, by go_num, ?_⟩, by simp [intOf]; omega⟩
        rw [List.take_succ_eq_append_getElem hlt]
        intro hm
        rcases List.mem_append.1 hm with h1 | h1
        · exact hn h1
        · exact this (List.mem_singleton.1 h1)
    · go_wp2
      go_ret
      refine ⟨⟨-1, rfl, ?_⟩, rfl⟩
      rw [List.take_of_length_le (by omega)] at hn
      simp [hn]

/-- Is x among them? -/
def hasS (ss : List ByteArray) (x : ByteArray) : Bool := Lib.containsS ss x

theorem hasS_iff (ss : List ByteArray) (x : ByteArray) : hasS ss x = true ↔ x ∈ ss := Lib.containsS_iff ss x

set_option maxHeartbeats 400000 in
theorem contains_any (b : Nat) (ss : List ByteArray) (cap : Nat) (x : ByteArray) (w : World) (hl : ss.length ≤ 1024) (hc : StrsAt w b ss) :
    Calls Ybaf.prog 6 #[.slice (some ⟨b, 0, none⟩) ss.length cap, .string x] w fun e w' => e = .returned (.bool (hasS ss x)) ∧ w' = w := by
  go_enter Ybaf.func6, Ybaf.ntmps6
  go_wp2_with (go_at_call 8; refine (index_any b ss cap x _ hl hc).mono ?_; rintro e w' ⟨⟨r, rfl, hr⟩, rfl⟩)
  go_ret
  refine ⟨?_, rfl⟩
  have : decide (0 ≤ r) = hasS ss x := by
    rw [Bool.eq_iff_iff, decide_eq_true_iff, hasS_iff, hr]
  exact ret_bool this

end Go.Proofs.YbulkaajkFmt
