/-
  WHAT THE LAW's FIRST HALF BUILDS: the entries, block by block; the handlers' map; and the plain law: 'checkCodes fails' is 'some module other than self has a required code'.
-/
import Derived.Test.YbulkaajkFmtW3
import Derived.Deep.OwnRows
namespace Go.Proofs.YbulkaajkFmt
open Go.RowKit

/-- The codes of a module. -/
def codesOf (L : Nat) (Z : Nat → Int) : List ByteArray := (List.range L).map fun j => codeOf (Z j)
theorem codesOf_length (L : Nat) (Z : Nat → Int) : (codesOf L Z).length = L := by simp [codesOf]

/-- k entries of n are built: block eb holds their pointers. -/
structure Built (w wr : World) (n k : Nat) (ent cb : Nat → Nat) (L : Nat → Nat) (Z : Nat → Nat → Int) : Prop where
  below : Below w.heap.size w wr
  row : wr.rowIs w.heap.size 27 n (fun i => .pointer (if i < k then some ⟨ent i, 0, none⟩ else none))
  blk : ∀ i, i < k → wr.heap[ent i]? = some (entObj (.slice (some ⟨cb i, 0, none⟩) (L i) (L i)))
  codes : ∀ i, i < k → wr.rowIs (cb i) 9 (L i) (fun j => .string (codeOf (Z i j)))
  above : ∀ i, i < k → w.heap.size < ent i ∧ w.heap.size < cb i
  apart : ∀ i j, i < k → j < k → ent i = ent j → i = j

theorem Built.start (w : World) (n : Nat) (ent cb L : Nat → Nat) (Z : Nat → Nat → Int) : Built w (w.alloc (.cells (madeCells #[.pointer none] n) 27)) n 0 ent cb L Z where
  below := (Below.refl _ _).alloc (Nat.le_refl _) _
  row := (World.rowIs_made w (.pointer none) n 27).congr (fun i _ => by simp)
  blk i hi := by omega
  codes i hi := by omega
  above i hi := by omega
  apart i j hi := by omega

theorem Built.step {w wr w1 : World} {n k : Nat} {ent cb L : Nat → Nat} {Z : Nat → Nat → Int} (h : Built w wr n k ent cb L Z) (hb : Below wr.heap.size wr w1)
    (hsz : wr.heap.size < w1.heap.size) (hrow : w1.rowIs wr.heap.size 9 (L k) (fun j => .string (codeOf (Z k j)))) :
    Built w ((w1.alloc (entObj (.slice (some ⟨wr.heap.size, 0, none⟩) (L k) (L k)))).setCell ⟨w.heap.size, k, none⟩ (.pointer (some ⟨w1.heap.size, 0, none⟩))) n (k + 1)
      (fun i => if i = k then w1.heap.size else ent i) (fun i => if i = k then wr.heap.size else cb i) L Z := by
  have hw := h.row.lt
  have hb' := h.below.size
  have helt : ∀ i, i < k → ent i < wr.heap.size := fun i hi => lt_of_blk (h.blk i hi)
  have hclt : ∀ i, i < k → cb i < wr.heap.size := fun i hi => (h.codes i hi).lt
  refine ⟨?_, ?_, ?_, ?_, ?_, ?_⟩
  · exact ((h.below.trans (hb.mono hb')).alloc (by omega) _).setCell (Nat.le_refl _) _
  · have r1 := ((h.row.of_block (hb.block _ hw)).alloc (entObj (.slice (some ⟨wr.heap.size, 0, none⟩) (L k) (L k)))).set k (.pointer (some ⟨w1.heap.size, 0, none⟩))
    refine r1.congr fun i _ => ?_
    by_cases e : i = k
    · subst e; simp
    · have e1 : i < k + 1 ↔ i < k := by omega
      simp [e, e1]
  · intro i hi
    rw [Below.heap_setCell _ _ _ _ (by
      by_cases e : i = k
      · simp [e]; omega
      · have := h.above i (by omega); simp [e]; omega)]
    by_cases e : i = k
    · subst e
      simp only [if_pos]
      show (w1.heap.push _)[w1.heap.size]? = _
      simp
    · simp only [if_neg e]
      have := helt i (by omega)
      rw [Below.heap_alloc _ _ _ (by omega), hb.block _ this]
      exact h.blk i (by omega)
  · intro i hi
    by_cases e : i = k
    · subst e
      simp only [if_pos]
      exact (hrow.alloc _).setOther (by simp; omega) _
    · simp only [if_neg e]
      have h1 := h.above i (by omega)
      exact (((h.codes i (by omega)).of_block (hb.block _ (hclt i (by omega)))).alloc _).setOther (by simp; omega) _
  · intro i hi
    by_cases e : i = k
    · simp [e]; omega
    · simp only [if_neg e]; exact h.above i (by omega)
  · intro i j hi hj he
    by_cases e : i = k
    · by_cases e' : j = k
      · omega
      · simp only [if_pos e, if_neg e'] at he
        have := helt j (by omega); omega
    · by_cases e' : j = k
      · simp only [if_neg e, if_pos e'] at he
        have := helt i (by omega); omega
      · simp only [if_neg e, if_neg e'] at he
        exact h.apart i j (by omega) (by omega) he

/-- All are built. -/
theorem Built.ents {w wr : World} {n : Nat} {ent cb L : Nat → Nat} {Z : Nat → Nat → Int} (h : Built w wr n n ent cb L Z) (hL : ∀ i, i < n → L i ≤ 1024) : Ents wr w.heap.size n ent cb (fun i => codesOf (L i) (Z i)) where
  ptr i hi := by rw [h.row.cell hi, if_pos hi]
  blk i hi := by rw [codesOf_length]; exact h.blk i hi
  strs i hi := by
    intro j hj
    rw [codesOf_length] at hj
    rw [(h.codes i hi).cell hj]
    simp [codesOf, hj]
  short i hi := by rw [codesOf_length]; exact hL i hi

/-- The handlers' datum behind k codes. -/
def hMap (Rq : Nat → Int) (k : Nat) : DataW Unit := Maps.setOf (.lit (.bool true)) ((List.range k).map fun j => .string (codeOf (Rq j)).data.toList)

theorem hMap_zero (Rq : Nat → Int) : hMap Rq 0 = .map [] := rfl
theorem hMap_succ (Rq : Nat → Int) (k : Nat) : hMap Rq (k + 1) = (hMap Rq k).put (.string (codeOf (Rq k)).data.toList) (.lit (.bool true)) := by
  unfold hMap
  rw [List.range_succ, List.map_append, List.map_cons, List.map_nil, Maps.setOf_snoc]

theorem hMap_has (Rq : Nat → Int) (k : Nat) (x : List UInt8) : Maps.has (hMap Rq k) (.string x) = true ↔ ∃ j, j < k ∧ x = (codeOf (Rq j)).data.toList := by
  unfold hMap
  rw [Maps.has_setOf _ _ _ (fun y hy => by obtain ⟨j, _, rfl⟩ := List.mem_map.1 hy; trivial), List.any_eq_true]
  constructor
  · rintro ⟨y, hy, hs⟩
    obtain ⟨j, hj, rfl⟩ := List.mem_map.1 hy
    refine ⟨j, List.mem_range.1 hj, ?_⟩
    have := WideAt.sameKey_eq hs
    simpa using this.symm
  · rintro ⟨j, hj, rfl⟩
    exact ⟨_, List.mem_map.2 ⟨j, List.mem_range.2 hj, rfl⟩, WideAt.sameKey_self trivial⟩

/-- A module of the first k other than 'self' has a required code. -/
def Want (k self m : Nat) (L : Nat → Nat) (Z : Nat → Nat → Int) (Rq : Nat → Int) : Prop := ∃ i, i < k ∧ i ≠ self ∧ ∃ j, j < m ∧ codeOf (Rq j) ∈ codesOf (L i) (Z i)

theorem clash_iff (n self m ep : Nat) (ent L : Nat → Nat) (Z : Nat → Nat → Int) (Rq : Nat → Int) (he : ∀ i, i < n → (ent i = ep ↔ i = self)) :
    Clash n ent ep (fun i => codesOf (L i) (Z i)) (hMap Rq m) ↔ Want n self m L Z Rq := by
  constructor
  · rintro ⟨i, hi, hne, x, hx, hm⟩
    obtain ⟨j, hj, rfl⟩ := (hMap_has Rq m x).1 hx
    exact ⟨i, hi, fun e => hne ((he i hi).2 e), j, hj, by simpa using hm⟩
  · rintro ⟨i, hi, hne, j, hj, hm⟩
    exact ⟨i, hi, fun e => hne ((he i hi).1 e), _, (hMap_has Rq m _).2 ⟨j, hj, rfl⟩, by simpa using hm⟩

end Go.Proofs.YbulkaajkFmt
