/-
  (*reader).skipBreak (8): ITS CONTRACT: what the reader's block holds behind the call; nothing else has turned.
-/
import Derived.Test.YbulkaakmRows
import Derived.WalkKit
import Derived.WalkSpells
import Derived.WalkLawsBesides
import Derived.BigQuiet
import Derived.Deep.QuietTactic
namespace Go.Proofs.Ybulkaakm
open Go.RowKit

theorem lt_of_blk {w : World} {b : Nat} {o : Obj} (h : w.heap[b]? = some o) : b < w.heap.size := (Array.getElem?_eq_some_iff.1 h).1

theorem heap_set_same {w : World} {b : Nat} {c : Array Value} {e : TypeId} {f : Nat × Nat} (h : w.heap[b]? = some (.cells c e f)) (o : Nat) (v : Value) : (w.setCell ⟨b, o, none⟩ v).heap[b]? = some (.cells (c.setIfInBounds o v) e f) := by
  simp [World.setCell, Array.getElem?_modify, h]

theorem heap_set_other {w : World} {b : Nat} {a : Addr} (h : b ≠ a.block) (v : Value) : (w.setCell a v).heap[b]? = w.heap[b]? := Below.heap_setCell _ _ _ _ h

/-- A reader's block. -/
abbrev rdObj (unit pos off line col chars : Int) (cr : Value) (head : Int) : Obj :=
  .cells #[.nilIface, .slice none 0 0, .int .i64 0, .bool false, .int .i64 unit, .nilIface, .slice none 0 0, .int .i64 pos, .int .i64 off, .int .i64 line, .int .i64 col, .int .i64 chars, cr, .int .i64 head, .int .i64 0, .bool false, .bool false, .pointer none, .nilIface] 44 (0, 0)

/-- The stores that skipBreak ends in, at a reader's block. -/
theorem rd_end {w : World} {rb : Nat} {unit pos off line col chars : Int} {cr : Value} {head : Int} (p' o' l' c' : Int) (h : w.heap[rb]? = some (rdObj unit pos off line col chars cr head)) :
    (((((w.setCell ⟨rb, 7, none⟩ (.int .i64 p')).setCell ⟨rb, 8, none⟩ (.int .i64 o')).setCell ⟨rb, 9, none⟩ (.int .i64 l')).setCell ⟨rb, 10, none⟩ (.int .i64 0)).setCell ⟨rb, 11, none⟩ (.int .i64 c')).heap[rb]? = some (rdObj unit p' o' l' 0 c' cr head) := by
  have s1 := heap_set_same h 7 (.int .i64 p')
  have s2 := heap_set_same s1 8 (.int .i64 o')
  have s3 := heap_set_same s2 9 (.int .i64 l')
  have s4 := heap_set_same s3 10 (.int .i64 0)
  have s5 := heap_set_same s4 11 (.int .i64 c')
  rw [s5]
  simp

theorem grown_set {w w1 : World} {rb : Nat} (h : w.grownBy w1 (some rb)) (o : Nat) (v : Value) : w.grownBy (w1.setCell ⟨rb, o, none⟩ v) (some rb) :=
  ⟨h.os, h.tape, h.output, by simpa [World.setCell] using h.size, fun k hk hne => by rw [heap_set_other (fun e => hne (by rw [e]))]; exact h.block k hk hne⟩

theorem grown_drewN (w : World) (nq rb : Nat) : w.grownBy (w.drewN nq) (some rb) := ⟨rfl, rfl, rfl, Nat.le_refl _, fun _ _ _ => rfl⟩

set_option maxRecDepth 100000 in
set_option maxHeartbeats 800000 in
/-- The next byte is the line feed of a CR LF. -/
theorem skip_hit (rb h len cap : Nat) (unit pos off line col chars : Int) (cb : Nat) (w : World) (hu0 : 1 ≤ unit) (hu1 : unit ≤ 2) (hl : len ≤ 1024) (hh : h < len)
    (hr : w.heap[rb]? = some (rdObj unit pos off line col chars (.slice (some ⟨cb, 0, none⟩) len cap) h)) (hc : w.cell? ⟨cb, h, none⟩ = some (.int .i64 pos)) :
    Calls Yba.prog 8 #[.pointer (some ⟨rb, 0, none⟩)] w fun e w' => e = .returned (.tuple #[]) ∧
      w'.heap[rb]? = some (rdObj unit (wrap64 (pos + 1)) (wrap64 (off + unit * 2)) (wrap64 (line + 1)) 0 (wrap64 (chars + 1)) (.slice (some ⟨cb, 0, none⟩) len cap) (h + 1)) ∧ w.grownBy w' (some rb) := by
  have c4 : w.cell? ⟨rb, 4, none⟩ = some (.int .i64 unit) := by simp [World.cell?, hr]
  have c7 : w.cell? ⟨rb, 7, none⟩ = some (.int .i64 pos) := by simp [World.cell?, hr]
  have c8 : w.cell? ⟨rb, 8, none⟩ = some (.int .i64 off) := by simp [World.cell?, hr]
  have c9 : w.cell? ⟨rb, 9, none⟩ = some (.int .i64 line) := by simp [World.cell?, hr]
  have c10 : w.cell? ⟨rb, 10, none⟩ = some (.int .i64 col) := by simp [World.cell?, hr]
  have c11 : w.cell? ⟨rb, 11, none⟩ = some (.int .i64 chars) := by simp [World.cell?, hr]
  have c12 : w.cell? ⟨rb, 12, none⟩ = some (.slice (some ⟨cb, 0, none⟩) len cap) := by simp [World.cell?, hr]
  have c13 : w.cell? ⟨rb, 13, none⟩ = some (.int .i64 h) := by simp [World.cell?, hr]
  have fz : ∀ o, w.frozen? ⟨rb, o, none⟩ = false := fun o => by simp [World.frozen?, hr]
  have hd : decide ((h : Int) < (len : Int)) = true := by simp; omega
  have h1 : ∀ nq, ((w.drewN nq).setCell ⟨rb, 13, none⟩ (.int .i64 ((h : Int) + 1))).heap[rb]? = some (rdObj unit pos off line col chars (.slice (some ⟨cb, 0, none⟩) len cap) ((h : Int) + 1)) := fun nq => by
    rw [heap_set_same (w := w.drewN nq) hr]; simp
  have H1 : Hid (∀ nq, ((w.drewN nq).setCell ⟨rb, 13, none⟩ (.int .i64 ((h : Int) + 1))).heap[rb]? = some (rdObj unit pos off line col chars (.slice (some ⟨cb, 0, none⟩) len cap) ((h : Int) + 1))) := h1
  clear h1 hr
  go_enter Yba.func8, Yba.ntmps8
  go_wp2
  go_quiet (fail)
  go_wp2
  go_end0
  exact ⟨rfl, rd_end _ _ _ _ (H1.out _), grown_set (grown_set (grown_set (grown_set (grown_set (grown_set (grown_drewN w _ rb) _ _) _ _) _ _) _ _) _ _) _ _⟩

set_option maxRecDepth 100000 in
set_option maxHeartbeats 800000 in
/-- No further CR LF is noted. -/
theorem skip_past (rb h len cap : Nat) (unit pos off line col chars : Int) (ca : Option Addr) (w : World) (hh : ¬ h < len)
    (hr : w.heap[rb]? = some (rdObj unit pos off line col chars (.slice ca len cap) h)) :
    Calls Yba.prog 8 #[.pointer (some ⟨rb, 0, none⟩)] w fun e w' => e = .returned (.tuple #[]) ∧
      w'.heap[rb]? = some (rdObj unit (wrap64 (pos + 1)) (wrap64 (off + unit)) (wrap64 (line + 1)) 0 (wrap64 (chars + 1)) (.slice ca len cap) h) ∧ w.grownBy w' (some rb) := by
  have c4 : w.cell? ⟨rb, 4, none⟩ = some (.int .i64 unit) := by simp [World.cell?, hr]
  have c7 : w.cell? ⟨rb, 7, none⟩ = some (.int .i64 pos) := by simp [World.cell?, hr]
  have c8 : w.cell? ⟨rb, 8, none⟩ = some (.int .i64 off) := by simp [World.cell?, hr]
  have c9 : w.cell? ⟨rb, 9, none⟩ = some (.int .i64 line) := by simp [World.cell?, hr]
  have c10 : w.cell? ⟨rb, 10, none⟩ = some (.int .i64 col) := by simp [World.cell?, hr]
  have c11 : w.cell? ⟨rb, 11, none⟩ = some (.int .i64 chars) := by simp [World.cell?, hr]
  have c12 : w.cell? ⟨rb, 12, none⟩ = some (.slice ca len cap) := by simp [World.cell?, hr]
  have c13 : w.cell? ⟨rb, 13, none⟩ = some (.int .i64 h) := by simp [World.cell?, hr]
  have fz : ∀ o, w.frozen? ⟨rb, o, none⟩ = false := fun o => by simp [World.frozen?, hr]
  have hd : decide ((h : Int) < (len : Int)) = false := by simp; omega
  have H1 : Hid (w.heap[rb]? = some (rdObj unit pos off line col chars (.slice ca len cap) h)) := hr
  clear hr
  go_enter Yba.func8, Yba.ntmps8
  go_wp2
  go_quiet (fail)
  go_wp2
  go_end0
  exact ⟨rfl, rd_end (w := w.drewN _) _ _ _ _ H1.out, grown_set (grown_set (grown_set (grown_set (grown_set (grown_drewN w _ rb) _ _) _ _) _ _) _ _) _ _⟩

set_option maxRecDepth 100000 in
set_option maxHeartbeats 800000 in
/-- The next CR LF that is noted stands elsewhere. -/
theorem skip_other (rb h len cap : Nat) (unit pos off line col chars x : Int) (cb : Nat) (w : World) (hh : h < len) (hx : (x == pos) = false)
    (hr : w.heap[rb]? = some (rdObj unit pos off line col chars (.slice (some ⟨cb, 0, none⟩) len cap) h)) (hc : w.cell? ⟨cb, h, none⟩ = some (.int .i64 x)) :
    Calls Yba.prog 8 #[.pointer (some ⟨rb, 0, none⟩)] w fun e w' => e = .returned (.tuple #[]) ∧
      w'.heap[rb]? = some (rdObj unit (wrap64 (pos + 1)) (wrap64 (off + unit)) (wrap64 (line + 1)) 0 (wrap64 (chars + 1)) (.slice (some ⟨cb, 0, none⟩) len cap) h) ∧ w.grownBy w' (some rb) := by
  have c4 : w.cell? ⟨rb, 4, none⟩ = some (.int .i64 unit) := by simp [World.cell?, hr]
  have c7 : w.cell? ⟨rb, 7, none⟩ = some (.int .i64 pos) := by simp [World.cell?, hr]
  have c8 : w.cell? ⟨rb, 8, none⟩ = some (.int .i64 off) := by simp [World.cell?, hr]
  have c9 : w.cell? ⟨rb, 9, none⟩ = some (.int .i64 line) := by simp [World.cell?, hr]
  have c10 : w.cell? ⟨rb, 10, none⟩ = some (.int .i64 col) := by simp [World.cell?, hr]
  have c11 : w.cell? ⟨rb, 11, none⟩ = some (.int .i64 chars) := by simp [World.cell?, hr]
  have c12 : w.cell? ⟨rb, 12, none⟩ = some (.slice (some ⟨cb, 0, none⟩) len cap) := by simp [World.cell?, hr]
  have c13 : w.cell? ⟨rb, 13, none⟩ = some (.int .i64 h) := by simp [World.cell?, hr]
  have fz : ∀ o, w.frozen? ⟨rb, o, none⟩ = false := fun o => by simp [World.frozen?, hr]
  have hd : decide ((h : Int) < (len : Int)) = true := by simp; omega
  have H1 : Hid (w.heap[rb]? = some (rdObj unit pos off line col chars (.slice (some ⟨cb, 0, none⟩) len cap) h)) := hr
  clear hr
  go_enter Yba.func8, Yba.ntmps8
  go_wp2
  go_quiet (fail)
  go_wp2
  go_end0
  exact ⟨rfl, rd_end (w := w.drewN _) _ _ _ _ H1.out, grown_set (grown_set (grown_set (grown_set (grown_set (grown_drewN w _ rb) _ _) _ _) _ _) _ _) _ _⟩

end Go.Proofs.Ybulkaakm
