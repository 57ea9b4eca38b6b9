/-
  LawS1324BChainWon: WHAT LIES IN MEMORY: the record, the spans of the chain, the slice 'chain', as the law builds them; each step's law, with no walk in sight.
-/
import Derived.Test.YbulkaajyWon
import Derived.Deep.OwnRows
namespace Go.Proofs.Ybulkaajy
open Go.RowKit

abbrev recObj (sv : Value) : Obj := .cells #[.pointer none, .int .i32 0, .int .u32 0, sv] 34 (0, 0)
abbrev spanObj (rb : Nat) (par : Option Addr) (ch : Value) (c : Bool) : Obj :=
  .cells #[.pointer (some ⟨rb, 0, none⟩), .pointer par, ch, .int .u64 0, .int .i64 0, .pointer none, .bool false, .bool false, .int .i64 0, .int .i64 0, .nilIface, .bool c, .bool false] 43 (0, 0)

/-- Who a span's parent is: the root has none. -/
def par (sp : Nat → Nat) : Nat → Option Addr
  | 0 => none
  | i + 1 => some ⟨sp i, 0, none⟩

theorem lt_of_blk {w : World} {b : Nat} {o : Obj} (h : w.heap[b]? = some o) : b < w.heap.size := (Array.getElem?_eq_some_iff.1 h).1

theorem heap_set_same {w : World} {b : Nat} {c : Array Value} {e : TypeId} {f : Nat × Nat} (h : w.heap[b]? = some (.cells c e f)) (o : Nat) (v : Value) : (w.setCell ⟨b, o, none⟩ v).heap[b]? = some (.cells (c.setIfInBounds o v) e f) := by
  simp [World.setCell, Array.getElem?_modify, h]

theorem heap_set_other {w : World} {b : Nat} {a : Addr} (h : b ≠ a.block) (v : Value) : (w.setCell a v).heap[b]? = w.heap[b]? := Below.heap_setCell _ _ _ _ h

theorem ownsRow_set {w : World} {base e size : Nat} {v : Value} {n : Nat} {xs : List Value} (h : w.ownsRow base e size v n xs) {a : Addr} (ha : v.ownBlock ≠ some a.block) (u : Value) : (w.setCell a u).ownsRow base e size v n xs := by
  obtain ⟨h1, h2⟩ := h
  refine ⟨h1, ?_⟩
  rcases h2 with h2 | ⟨g, cap, cur, hv, hg, hh, r⟩
  · exact .inl h2
  · refine .inr ⟨g, cap, cur, hv, hg, ?_, r⟩
    rw [heap_set_other (fun e => ha (by rw [hv, e]; rfl))]
    exact hh

/-- A row that is owned is no span and no record. -/
theorem own_ne {w : World} {base : Nat} {v : Value} {n : Nat} {xs : List Value} (h : w.ownsRow base 22 1 v n xs) {b : Nat} {c : Array Value} {e : TypeId} {f : Nat × Nat} (hb : w.heap[b]? = some (.cells c e f)) (he : e ≠ 22) : v.ownBlock ≠ some b := by
  intro hv
  rcases h.2 with ⟨rfl, _⟩ | ⟨g, cap, cur, rfl, _, hh, _⟩
  · simp [Value.ownBlock] at hv
  · simp [Value.ownBlock] at hv
    subst hv
    rw [hh] at hb
    cases hb
    exact he rfl

/-- m spans hang below the root; 'chain' holds k of them, the record kr. -/
structure St (B : Nat) (w wx : World) (n k m kr : Nat) (sp : Nat → Nat) (chs : Nat → Bool) (sv : Value) : Prop where
  below : Below B w wx
  rcd : wx.heap[B]? = some (recObj sv)
  own : ∃ xs, wx.ownsRow (B + 3) 22 1 sv kr xs
  span : ∀ i, i ≤ m → ∃ ch, wx.heap[sp i]? = some (spanObj B (par sp i) ch (chs i)) ∧ (i = m → ch = .slice none 0 0)
  row : wx.ownsRow (B + 2) 22 1 (.slice (some ⟨B + 2, 0, none⟩) k n) k ((List.range k).map fun j => .pointer (some ⟨sp (j + 1), 0, none⟩))
  sp0 : sp 0 = B + 1
  dist : ∀ i j, i ≤ m → j ≤ m → sp i = sp j → i = j
  high : ∀ i, 0 < i → i ≤ m → B + 2 < sp i

theorem St.ne0 {B : Nat} {w wx : World} {n k m kr : Nat} {sp : Nat → Nat} {chs : Nat → Bool} {sv : Value} (h : St B w wx n k m kr sp chs sv) (i : Nat) (hi : i ≤ m) : sp i ≠ B ∧ sp i ≠ B + 2 := by
  by_cases e : i = 0
  · subst e; rw [h.sp0]; omega
  · have := h.high i (by omega) hi; omega

theorem St.start (w : World) (n : Nat) (hn : n ≤ maxLen) (chs : Nat → Bool) (h0 : chs 0 = false) :
    St w.heap.size w (((w.alloc (recObj (.slice none 0 0))).alloc (spanObj w.heap.size none (.slice none 0 0) false)).alloc (.cells (madeCells #[.pointer none] n) 22)) n 0 0 0 (fun _ => w.heap.size + 1) chs (.slice none 0 0) where
  below := (((Below.refl _ _).alloc (Nat.le_refl _) _).alloc (by simp) _).alloc (by simp; omega) _
  rcd := by
    rw [Below.heap_alloc _ _ _ (by simp; omega), Below.heap_alloc _ _ _ (by simp)]
    show (w.heap.push _)[w.heap.size]? = _
    simp
  own := ⟨[], World.ownsRow_nil _ _ _ _⟩
  span i hi := by
    obtain rfl : i = 0 := by omega
    refine ⟨.slice none 0 0, ?_, fun _ => rfl⟩
    rw [Below.heap_alloc _ _ _ (by simp), h0]
    have e : (w.alloc (recObj (.slice none 0 0))).heap.size = w.heap.size + 1 := by simp
    rw [← e]
    exact heap_alloc_new _ _
  row := by
    have := World.ownsRow_made (base := w.heap.size + 2) (e := 22) (size := 1) ((w.alloc (recObj (.slice none 0 0))).alloc (spanObj w.heap.size none (.slice none 0 0) false)) (madeCells #[.pointer none] n) n (by simp) hn (by simp [size_madeCells])
    simpa using this
  sp0 := rfl
  dist i j hi hj _ := by omega
  high i h1 h2 := by omega

/-- A new span below the k-th; the k-th's children are written. -/
theorem St.hang {w wx w3 : World} {B n k : Nat} {sp : Nat → Nat} {chs : Nat → Bool} {sv v3 : Value} {one : Obj} (h : St B w wx n k k k sp chs sv)
    (hg : ((wx.alloc (spanObj B (some ⟨sp k, 0, none⟩) (.slice none 0 0) (chs (k + 1)))).alloc one).grownBy w3 none) :
    St B w (w3.setCell ⟨sp k, 2, none⟩ v3) n k (k + 1) k (fun i => if i = k + 1 then wx.heap.size else sp i) chs sv := by
  have hB := lt_of_blk h.rcd
  have hcb := (h.row.lt _ rfl).2
  have hlt : ∀ i, i ≤ k → sp i < wx.heap.size := fun i hi => by obtain ⟨ch, hh, _⟩ := h.span i hi; exact lt_of_blk hh
  have hgw : wx.grownBy w3 none := ⟨hg.os, hg.tape, hg.output, by have := hg.size; simp at this; omega, fun b hb _ => by
    rw [hg.block b (by simp; omega) (by simp), Below.heap_alloc _ _ _ (by simp; omega), Below.heap_alloc _ _ _ hb]⟩
  have hold : ∀ b, b < wx.heap.size → w3.heap[b]? = wx.heap[b]? := fun b hb => hgw.block b hb (by simp)
  have hnew : w3.heap[wx.heap.size]? = some (spanObj B (some ⟨sp k, 0, none⟩) (.slice none 0 0) (chs (k + 1))) := by
    rw [hg.block _ (by simp; omega) (by simp), Below.heap_alloc _ _ _ (by simp)]
    show (wx.heap.push _)[wx.heap.size]? = _
    simp
  have hk0 := h.ne0 k (Nat.le_refl _)
  refine ⟨?_, ?_, ?_, ?_, ?_, ?_, ?_, ?_⟩
  · refine ((h.below.grown hgw (by omega) (fun j hj => by cases hj))).setCell ?_ _
    by_cases e : k = 0
    · subst e; rw [h.sp0]; simp
    · have := h.high k (by omega) (Nat.le_refl _); simp; omega
  · rw [heap_set_other (by simpa using hk0.1.symm), hold _ hB]; exact h.rcd
  · obtain ⟨xs, ho⟩ := h.own
    obtain ⟨ch, hh, _⟩ := h.span k (Nat.le_refl _)
    exact ⟨xs, ownsRow_set (ho.kept hgw (by cases hv : sv.ownBlock <;> simp)) (own_ne ho hh (by decide)) _⟩
  · intro i hi
    by_cases e : i = k + 1
    · subst e
      refine ⟨.slice none 0 0, ?_, fun _ => rfl⟩
      simp only [if_pos, par]
      rw [heap_set_other (by have := hlt k (Nat.le_refl _); simp; omega), hnew]
      simp
    · obtain ⟨ch, hh, _⟩ := h.span i (by omega)
      have hpar : par (fun i => if i = k + 1 then wx.heap.size else sp i) i = par sp i := by
        cases i with
        | zero => rfl
        | succ i => simp only [par]; rw [if_neg (by omega)]
      simp only [if_neg e, hpar]
      by_cases e' : i = k
      · subst e'
        rw [← hold _ (hlt i (Nat.le_refl _))] at hh
        exact ⟨v3, by rw [heap_set_same hh]; simp, fun h => by omega⟩
      · refine ⟨ch, ?_, fun h => absurd h e⟩
        rw [heap_set_other (by simp; exact fun he => e' (h.dist i k (by omega) (Nat.le_refl _) he)), hold _ (hlt i (by omega))]
        exact hh
  · have hr := ownsRow_set (h.row.kept hgw (by simp [Value.ownBlock])) (a := ⟨sp k, 2, none⟩) (by simp [Value.ownBlock]; exact hk0.2.symm) v3
    rw [show ((List.range k).map fun j => Value.pointer (some ⟨if j + 1 = k + 1 then wx.heap.size else sp (j + 1), 0, none⟩)) = (List.range k).map fun j => Value.pointer (some ⟨sp (j + 1), 0, none⟩) from
      List.map_congr_left fun j hj => by have := List.mem_range.1 hj; rw [if_neg (by omega)]]
    exact hr
  · rw [if_neg (by omega)]; exact h.sp0
  · intro i j hi hj he
    by_cases e1 : i = k + 1
    · by_cases e2 : j = k + 1
      · omega
      · simp only [if_pos e1, if_neg e2] at he
        have := hlt j (by omega); omega
    · by_cases e2 : j = k + 1
      · simp only [if_neg e1, if_pos e2] at he
        have := hlt i (by omega); omega
      · simp only [if_neg e1, if_neg e2] at he
        exact h.dist i j (by omega) (by omega) he
  · intro i h1 h2
    by_cases e : i = k + 1
    · simp only [if_pos e]; omega
    · simp only [if_neg e]; exact h.high i h1 (by omega)

/-- The record's slice has grown. -/
theorem St.noted {w wx w6 : World} {B n k m kr : Nat} {sp : Nat → Nat} {chs : Nat → Bool} {sv v6 : Value} {one : Obj} {xs : List Value} (h : St B w wx n k m kr sp chs sv)
    (hg : (wx.alloc one).grownBy w6 sv.ownBlock) (ho6 : w6.ownsRow (B + 3) 22 1 v6 (kr + 1) xs) :
    St B w (w6.setCell ⟨B, 3, none⟩ v6) n k m (kr + 1) sp chs v6 := by
  obtain ⟨ys, ho⟩ := h.own
  have hB := lt_of_blk h.rcd
  have hsv : ∀ g, sv.ownBlock = some g → B + 3 ≤ g := fun g hg => (ho.lt g hg).1
  have hgw : wx.grownBy w6 sv.ownBlock := ⟨hg.os, hg.tape, hg.output, by have := hg.size; simp at this; omega, fun b hb hne => by
    rw [hg.block b (by simp; omega) hne, Below.heap_alloc _ _ _ hb]⟩
  have hneB : some B ≠ sv.ownBlock := fun e => by have := hsv B e.symm; omega
  have hrcd : w6.heap[B]? = some (recObj sv) := by rw [hgw.block B hB hneB]; exact h.rcd
  refine ⟨?_, ?_, ?_, ?_, ?_, h.sp0, h.dist, h.high⟩
  · exact (h.below.grown hgw (by omega) (fun j hj => by have := hsv j hj; omega)).setCell (Nat.le_refl _) _
  · rw [heap_set_same hrcd]; simp
  · exact ⟨xs, ownsRow_set ho6 (own_ne ho6 hrcd (by decide)) _⟩
  · intro i hi
    obtain ⟨ch, hh, hc⟩ := h.span i hi
    refine ⟨ch, ?_, hc⟩
    rw [heap_set_other (by simpa using (h.ne0 i hi).1), hgw.block _ (lt_of_blk hh) (own_ne ho hh (by decide)).symm]
    exact hh
  · refine ownsRow_set (h.row.kept hgw (.inr ?_)) (by simp [Value.ownBlock]) _
    intro e
    have := hsv (B + 2) (by rw [← e]; rfl)
    omega

/-- The slice 'chain' has grown. -/
theorem St.linked {w wx w9 : World} {B n k m kr : Nat} {sp : Nat → Nat} {chs : Nat → Bool} {sv : Value} {one : Obj} (h : St B w wx n k m kr sp chs sv)
    (hg : (wx.alloc one).grownBy w9 (some (B + 2)))
    (ho9 : w9.ownsRow (B + 2) 22 1 (.slice (some ⟨B + 2, 0, none⟩) (k + 1) n) (k + 1) (((List.range k).map fun j => .pointer (some ⟨sp (j + 1), 0, none⟩)) ++ [.pointer (some ⟨sp (k + 1), 0, none⟩)])) :
    St B w w9 n (k + 1) m kr sp chs sv := by
  obtain ⟨ys, ho⟩ := h.own
  have hB := lt_of_blk h.rcd
  have hsv : ∀ g, sv.ownBlock = some g → B + 3 ≤ g := fun g hg => (ho.lt g hg).1
  have hgw : wx.grownBy w9 (some (B + 2)) := ⟨hg.os, hg.tape, hg.output, by have := hg.size; simp at this; omega, fun b hb hne => by
    rw [hg.block b (by simp; omega) hne, Below.heap_alloc _ _ _ hb]⟩
  refine ⟨?_, ?_, ?_, ?_, ?_, h.sp0, h.dist, h.high⟩
  · exact h.below.grown hgw (by omega) (fun j hj => by cases hj; omega)
  · rw [hgw.block B hB (by simp)]; exact h.rcd
  · refine ⟨ys, ho.kept hgw (.inr fun e => ?_)⟩
    have := hsv (B + 2) e
    omega
  · intro i hi
    obtain ⟨ch, hh, hc⟩ := h.span i hi
    exact ⟨ch, by rw [hgw.block _ (lt_of_blk hh) (by have := (h.ne0 i hi).2; simpa using this)]; exact hh, hc⟩
  · rw [List.range_succ, List.map_append]
    exact ho9

/-- A span has been chosen; the lock is free again. -/
theorem St.choose {w wx : World} {B n k m kr : Nat} {sp : Nat → Nat} {chs : Nat → Bool} {sv : Value} (h : St B w wx n k m kr sp chs sv) (i : Nat) (hi : i ≤ m) :
    St B w (((wx.setCell ⟨B, 1, none⟩ (.int .i32 1)).setCell ⟨sp i, 11, none⟩ (.bool true)).setCell ⟨B, 1, none⟩ (.int .i32 0)) n k m kr sp (fun j => if j = i then true else chs j) sv := by
  obtain ⟨ys, ho⟩ := h.own
  have hne := h.ne0 i hi
  obtain ⟨ci, hhi, hci⟩ := h.span i hi
  have hsv : ∀ g, sv.ownBlock = some g → B + 3 ≤ g := fun g hg => (ho.lt g hg).1
  have hsB : sv.ownBlock ≠ some B := fun e => by have := hsv B e; omega
  refine ⟨?_, ?_, ?_, ?_, ?_, h.sp0, h.dist, h.high⟩
  · refine ((h.below.setCell (Nat.le_refl _) _).setCell ?_ _).setCell (Nat.le_refl _) _
    by_cases e : i = 0
    · subst e; rw [h.sp0]; simp
    · have := h.high i (by omega) hi; simp; omega
  · have h1 := heap_set_same h.rcd 1 (.int .i32 1)
    have h2 : ((wx.setCell ⟨B, 1, none⟩ (.int .i32 1)).setCell ⟨sp i, 11, none⟩ (.bool true)).heap[B]? = some (.cells (#[.pointer none, .int .i32 0, .int .u32 0, sv].setIfInBounds 1 (.int .i32 1)) 34 (0, 0)) := by
      rw [heap_set_other (by simpa using hne.1.symm)]; exact h1
    rw [heap_set_same h2]
    simp
  · exact ⟨ys, ownsRow_set (ownsRow_set (ownsRow_set ho hsB _) (own_ne ho hhi (by decide)) _) hsB _⟩
  · intro j hj
    by_cases e : j = i
    · subst e
      refine ⟨ci, ?_, hci⟩
      have h1 : (wx.setCell ⟨B, 1, none⟩ (.int .i32 1)).heap[sp j]? = some (spanObj B (par sp j) ci (chs j)) := by
        rw [heap_set_other (by simpa using hne.1)]; exact hhi
      rw [heap_set_other (by simpa using hne.1), heap_set_same h1]
      simp
    · obtain ⟨cj, hhj, hcj⟩ := h.span j hj
      refine ⟨cj, ?_, hcj⟩
      have hj0 := h.ne0 j hj
      rw [heap_set_other (by simpa using hj0.1), heap_set_other (by simp; exact fun he => e (h.dist j i hj hi he)), heap_set_other (by simpa using hj0.1), if_neg e]
      exact hhj
  · have hr : ∀ b, b ≠ B + 2 → (Value.slice (some ⟨B + 2, 0, none⟩) k n).ownBlock ≠ some b := fun b hb e => by simp [Value.ownBlock] at e; omega
    exact ownsRow_set (ownsRow_set (ownsRow_set h.row (hr _ (by simp)) _) (hr _ hne.2) _) (hr _ (by simp)) _

end Go.Proofs.Ybulkaajy
