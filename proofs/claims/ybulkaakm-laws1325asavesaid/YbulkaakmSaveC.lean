/-
  (*scanner).count (9) and (*scanner).saveKey (7): THEIR CONTRACTS.
-/
import Derived.Test.YbulkaakmRows
import Derived.WalkKit
import Derived.WalkSpells
import Derived.WalkLawsBesides
import Derived.BigQuiet
import Derived.Deep.QuietTactic
import Derived.Deep.CutRange
import Derived.Deep.RegionWith
import Derived.BigRegion
import Derived.Deep.MidRow
namespace Go.Proofs.Ybulkaakm.Save
open Go.RowKit
set_option linter.unusedSimpArgs false

set_option maxHeartbeats 400000 in
theorem count_any (sb : Nat) (tk hd : Int) (qa : Option Addr) (q qc : Nat) (w : World) (h19 : w.cell? ⟨sb, 19, none⟩ = some (.slice qa q qc)) (h20 : w.cell? ⟨sb, 20, none⟩ = some (.int .i64 hd)) (h21 : w.cell? ⟨sb, 21, none⟩ = some (.int .i64 tk)) :
    Calls Yba.prog 9 #[.pointer (some ⟨sb, 0, none⟩)] w fun e w' => e = .returned (.int .i64 (wrap64 (wrap64 (tk + q) - hd))) ∧ ∃ m, w' = w.drewN m := by
  go_enter Yba.func9, Yba.ntmps9
  go_wp2
  go_quiet (fail)
  go_wp2
  go_ret
  exact ⟨rfl, _, rfl⟩

/-- wx is w but for the cells of block b whose offsets S lets go. -/
structure Fr (b : Nat) (S : Nat → Prop) (w wx : World) : Prop where
  os : wx.os = w.os
  tape : wx.tape = w.tape
  output : wx.output = w.output
  size : wx.heap.size = w.heap.size
  frz : ∀ a, wx.frozen? a = w.frozen? a
  blk : ∀ k, k ≠ b → wx.heap[k]? = w.heap[k]?
  cel : ∀ o, ¬ S o → wx.cell? ⟨b, o, none⟩ = w.cell? ⟨b, o, none⟩
  som : ∀ a v, w.cell? a = some v → ∃ v', wx.cell? a = some v'

theorem Fr.refl (b : Nat) (S : Nat → Prop) (w : World) : Fr b S w w := ⟨rfl, rfl, rfl, rfl, fun _ => rfl, fun _ _ => rfl, fun _ _ => rfl, fun _ v h => ⟨v, h⟩⟩
theorem Fr.drew {b : Nat} {S : Nat → Prop} {w wx : World} (h : Fr b S w wx) : Fr b S w wx.drew := ⟨h.os, h.tape, h.output, h.size, h.frz, h.blk, h.cel, h.som⟩
theorem Fr.drewN {b : Nat} {S : Nat → Prop} {w wx : World} (h : Fr b S w wx) (n : Nat) : Fr b S w (wx.drewN n) := ⟨h.os, h.tape, h.output, h.size, h.frz, h.blk, h.cel, h.som⟩
theorem Fr.set {b : Nat} {S : Nat → Prop} {w wx : World} (h : Fr b S w wx) (o : Nat) (v : Value) (ho : S o) : Fr b S w (wx.setCell ⟨b, o, none⟩ v) :=
  ⟨h.os, h.tape, h.output, by simpa [World.setCell] using h.size, fun a => by rw [World.frozen?_setCell]; exact h.frz a,
    fun k hk => by rw [Below.heap_setCell _ _ _ _ hk]; exact h.blk k hk,
    fun o' ho' => by rw [World.cell?_setCell_other _ _ _ _ (by intro e; cases e; exact ho' ho)]; exact h.cel o' ho',
    fun a u hu => by obtain ⟨u', hu'⟩ := h.som a u hu; exact cell?_setCell_some hu'⟩
theorem Fr.trans {b : Nat} {S : Nat → Prop} {w w1 w2 : World} (h : Fr b S w w1) (k : Fr b S w1 w2) : Fr b S w w2 :=
  ⟨k.os.trans h.os, k.tape.trans h.tape, k.output.trans h.output, k.size.trans h.size, fun a => (k.frz a).trans (h.frz a), fun i hi => (k.blk i hi).trans (h.blk i hi), fun o ho => (k.cel o ho).trans (h.cel o ho), fun a u hu => by obtain ⟨u', hu'⟩ := h.som a u hu; exact k.som a u' hu'⟩
theorem Fr.mono {b : Nat} {S S' : Nat → Prop} {w wx : World} (h : Fr b S w wx) (hS : ∀ o, S o → S' o) : Fr b S' w wx :=
  ⟨h.os, h.tape, h.output, h.size, h.frz, h.blk, fun o ho => h.cel o (fun x => ho (hS o x)), h.som⟩
theorem Fr.cell {b : Nat} {S : Nat → Prop} {w wx : World} (h : Fr b S w wx) {a : Addr} (ha : a.block ≠ b) : wx.cell? a = w.cell? a := World.cell?_of_block (w := w) (h.blk _ ha)

/-- What saveKey looks at and writes: the scanner's cells; the last key's thirteen cells; the last flow. -/
structure In (w : World) (sb fb kb n : Nat) (ind col lo chars tk hd mo ml t0 t1 t2 : Int) (af : Bool) (qa : Option Addr) (q qc : Nat) (fk : Int) : Prop where
  c8 : w.cell? ⟨sb, 8, none⟩ = some (.int .i64 mo)
  c9 : w.cell? ⟨sb, 9, none⟩ = some (.int .i64 ml)
  c10 : w.cell? ⟨sb, 10, none⟩ = some (.int .i64 col)
  c11 : w.cell? ⟨sb, 11, none⟩ = some (.int .i64 chars)
  c19 : w.cell? ⟨sb, 19, none⟩ = some (.slice qa q qc)
  c20 : w.cell? ⟨sb, 20, none⟩ = some (.int .i64 hd)
  c21 : w.cell? ⟨sb, 21, none⟩ = some (.int .i64 tk)
  c25 : w.cell? ⟨sb, 25, none⟩ = some (.int .i64 ind)
  c29 : w.cell? ⟨sb, 29, none⟩ = some (.slice (some ⟨fb, 0, none⟩) n n)
  c30 : w.cell? ⟨sb, 30, none⟩ = some (.slice (some ⟨kb, 0, none⟩) (n + 1) (n + 1))
  c31 : w.cell? ⟨sb, 31, none⟩ = some (.int .i64 lo)
  c32 : w.cell? ⟨sb, 32, none⟩ = some (.bool true)
  c33 : w.cell? ⟨sb, 33, none⟩ = some (.bool af)
  c34 : w.cell? ⟨sb, 34, none⟩ = some (.int .i64 t0)
  c35 : w.cell? ⟨sb, 35, none⟩ = some (.int .i64 t1)
  c36 : w.cell? ⟨sb, 36, none⟩ = some (.int .i64 t2)
  key : ∀ j, j < 13 → ∃ v, w.cell? ⟨kb, n * 13 + j, none⟩ = some v
  kfz : ∀ o, w.frozen? ⟨kb, o, none⟩ = false
  sfz : ∀ o, w.frozen? ⟨sb, o, none⟩ = false
  flow : 0 < n → w.cell? ⟨fb, n - 1, none⟩ = some (.int .u8 fk)

/-- The scanner's cells that saveKey reads, in a world that has turned at the keys alone. -/
theorem In.fr {w wx : World} {sb fb kb n : Nat} {ind col lo chars tk hd mo ml t0 t1 t2 : Int} {af : Bool} {qa : Option Addr} {q qc : Nat} {fk : Int} {S : Nat → Prop} (h : In w sb fb kb n ind col lo chars tk hd mo ml t0 t1 t2 af qa q qc fk)
    (hsk : sb ≠ kb) (hfk : fb ≠ kb) (hF : Fr kb S w wx) : In wx sb fb kb n ind col lo chars tk hd mo ml t0 t1 t2 af qa q qc fk :=
  ⟨(hF.cell hsk).trans h.c8, (hF.cell hsk).trans h.c9, (hF.cell hsk).trans h.c10, (hF.cell hsk).trans h.c11, (hF.cell hsk).trans h.c19, (hF.cell hsk).trans h.c20, (hF.cell hsk).trans h.c21, (hF.cell hsk).trans h.c25, (hF.cell hsk).trans h.c29,
    (hF.cell hsk).trans h.c30, (hF.cell hsk).trans h.c31, (hF.cell hsk).trans h.c32, (hF.cell hsk).trans h.c33, (hF.cell hsk).trans h.c34, (hF.cell hsk).trans h.c35, (hF.cell hsk).trans h.c36,
    fun j hj => by obtain ⟨v, hv⟩ := h.key j hj; exact hF.som _ v hv, fun o => (hF.frz _).trans (h.kfz o), fun o => (hF.frz _).trans (h.sfz o), fun hp => (hF.cell hfk).trans (h.flow hp)⟩

/-- The key as saveKey leaves it. -/
def newKey (req mul af : Bool) (num chars mo ml col t0 t1 t2 : Int) : List Value :=
  [.bool true, .bool req, .bool mul, .bool false, .bool af, .int .i64 num, .int .i64 chars, .int .i64 mo, .int .i64 ml, .int .i64 col, .int .i64 t0, .int .i64 t1, .int .i64 t2]

/-- The lowest level as saveKey leaves it. -/
def newLow (lo : Int) (n : Nat) : Int := if (n : Int) < lo then (n : Int) else lo

set_option maxRecDepth 100000 in
set_option maxHeartbeats 4000000 in
theorem save_yes (w : World) (sb fb kb n : Nat) (ind col lo chars tk hd mo ml t0 t1 t2 : Int) (af : Bool) (qa : Option Addr) (q qc : Nat) (fk : Int) (hn : n ≤ 1024) (hsk : sb ≠ kb) (hfk : fb ≠ kb)
    (h : In w sb fb kb n ind col lo chars tk hd mo ml t0 t1 t2 af qa q qc fk) :
    Calls Yba.prog 7 #[.pointer (some ⟨sb, 0, none⟩)] w fun e w' => e = .returned (.tuple #[]) ∧ ∃ w4, Fr kb (fun o => n * 13 ≤ o ∧ o < n * 13 + 13) w w4 ∧ Fr sb (fun o => o = 31) w4 w' ∧ w'.cell? ⟨sb, 31, none⟩ = some (.int .i64 (newLow lo n)) ∧
      w4.rangeAt kb (n * 13) (newKey (ind == col) (decide (0 < n) && (fk == 10)) af (wrap64 (wrap64 (tk + q) - hd)) chars mo ml col t0 t1 t2) := by
  have hks : kb ≠ sb := fun e => hsk e.symm
  have h' := h
  obtain ⟨c8, c9, c10, c11, c19, c20, c21, c25, c29, c30, c31, c32, c33, c34, c35, c36, key, kfz, sfz, flow⟩ := h'
  obtain ⟨v0, k0⟩ := key 0 (by omega)
  obtain ⟨v1, k1⟩ := key 1 (by omega)
  obtain ⟨v3, k3⟩ := key 3 (by omega)
  obtain ⟨v4, k4⟩ := key 4 (by omega)
  rw [Nat.add_zero] at k0
  go_enter Yba.func7, Yba.ntmps7
  go_wp2
  go_cut [2, 3] from 4 (fun l k wx => l = .int .i64 n ∧ k = .pointer (some ⟨kb, n * 13, none⟩) ∧ Fr kb (fun o => o = n * 13 ∨ o = n * 13 + 1 ∨ o = n * 13 + 3 ∨ o = n * 13 + 4) w wx ∧
      wx.cell? ⟨kb, n * 13, none⟩ = some (.bool true) ∧ wx.cell? ⟨kb, n * 13 + 1, none⟩ = some (.bool (ind == col)) ∧ wx.cell? ⟨kb, n * 13 + 3, none⟩ = some (.bool false) ∧ wx.cell? ⟨kb, n * 13 + 4, none⟩ = some (.bool af))
  case first =>
    go_region
    all_goals go_wp2_with fail
    go_meet
    case rel =>
      refine ⟨rfl, rfl, ?_, ?_, ?_, ?_, ?_⟩
      · repeat (first | with_reducible refine Fr.set ?_ _ _ (by omega) | with_reducible apply Fr.drew | with_reducible exact Fr.refl _ _ _)
      · simp [go_sem, k0, k1, k3, k4]
      · simp [go_sem, k0, k1, k3, k4]
      · simp [go_sem, k0, k1, k3, k4]
      · simp [go_sem, k0, k1, k3, k4]
  case rest =>
    clear c8 c9 c10 c11 c19 c20 c21 c25 c29 c30 c31 c32 c33 c34 c35 c36 key kfz sfz flow k0 k1 k3 k4
    obtain ⟨rfl, rfl, hF1, d0, d1, d3, d4⟩ := hcut
    have h1 := h.fr hsk hfk hF1
    obtain ⟨w1, hw1⟩ : ∃ w1, w1 = wc := ⟨_, rfl⟩
    subst hw1
    obtain ⟨v2, k2⟩ := h1.key 2 (by omega)
    go_upto_region 4 with fail
    go_cut [2, 3] from 4 (fun l k wx => l = .int .i64 n ∧ k = .pointer (some ⟨kb, n * 13, none⟩) ∧ Fr kb (fun o => o = n * 13 + 2) w1 wx ∧ wx.cell? ⟨kb, n * 13 + 2, none⟩ = some (.bool (decide (0 < n) && (fk == 10))))
    case first =>
      have c29 := h1.c29
      have kfz := h1.kfz
      by_cases hn0 : 0 < n
      · have fl := h1.flow hn0
        have hn0' : (0 : Int) < (n : Int) := by omega
        go_wp2_with fail
        go_meet
        case rel =>
          refine ⟨rfl, rfl, ?_, ?_⟩
          · repeat (first | with_reducible refine Fr.set ?_ _ _ rfl | with_reducible apply Fr.drew | with_reducible exact Fr.refl _ _ _)
          · simp [go_sem, k2, hn0]
      · have hn0' : decide ((0 : Int) < (n : Int)) = false := by simp; omega
        go_wp2_with fail
        go_meet
        case rel =>
          refine ⟨rfl, rfl, ?_, ?_⟩
          · repeat (first | with_reducible refine Fr.set ?_ _ _ rfl | with_reducible apply Fr.drew | with_reducible exact Fr.refl _ _ _)
          · simp [go_sem, k2, hn0]
    case rest =>
      obtain ⟨rfl, rfl, hF2, d2⟩ := hcut
      have h2 := h1.fr hsk hfk hF2
      obtain ⟨w2, hw2⟩ : ∃ w2, w2 = wc := ⟨_, rfl⟩
      subst hw2
      obtain ⟨v5, k5⟩ := h2.key 5 (by omega)
      obtain ⟨v6, k6⟩ := h2.key 6 (by omega)
      clear k2
      go_upto_region 5 with fail
      go_cut [2, 3] from 4 (fun l k wx => l = .int .i64 n ∧ k = .pointer (some ⟨kb, n * 13, none⟩) ∧ Fr kb (fun o => o = n * 13 + 5 ∨ o = n * 13 + 6) w2 wx ∧ wx.cell? ⟨kb, n * 13 + 5, none⟩ = some (.int .i64 (wrap64 (wrap64 (tk + q) - hd))) ∧ wx.cell? ⟨kb, n * 13 + 6, none⟩ = some (.int .i64 chars))
      case first =>
        have c11 := h2.c11
        have kfz := h2.kfz
        have c19 := h2.c19
        have c20 := h2.c20
        have c21 := h2.c21
        go_region_with (go_at_call 9; refine (count_any sb tk hd qa q qc _ (by go_simp) (by go_simp) (by go_simp)).mono ?_; rintro e w' ⟨rfl, mq, rfl⟩)
        all_goals go_wp2_with fail
        all_goals
          go_meet
          case rel =>
            refine ⟨rfl, rfl, ?_, ?_, ?_⟩
            · repeat (first | with_reducible refine Fr.set ?_ _ _ (by omega) | with_reducible apply Fr.drew | with_reducible refine Fr.drewN ?_ _ | with_reducible exact Fr.refl _ _ _)
            · simp [go_sem, k5, k6]
            · simp [go_sem, k5, k6]
      case rest =>
        obtain ⟨rfl, rfl, hF3, d5, d6⟩ := hcut
        have h3 := h2.fr hsk hfk hF3
        obtain ⟨w3, hw3⟩ : ∃ w3, w3 = wc := ⟨_, rfl⟩
        subst hw3
        obtain ⟨v7, k7⟩ := h3.key 7 (by omega)
        obtain ⟨v8, k8⟩ := h3.key 8 (by omega)
        obtain ⟨v9, k9⟩ := h3.key 9 (by omega)
        obtain ⟨v10, k10⟩ := h3.key 10 (by omega)
        obtain ⟨v11, k11⟩ := h3.key 11 (by omega)
        obtain ⟨v12, k12⟩ := h3.key 12 (by omega)
        clear k5 k6
        go_upto_region 6 with fail
        go_cut [2, 3] from 4 (fun l k wx => l = .int .i64 n ∧ k = .pointer (some ⟨kb, n * 13, none⟩) ∧ Fr kb (fun o => n * 13 + 7 ≤ o ∧ o ≤ n * 13 + 12) w3 wx ∧
          wx.cell? ⟨kb, n * 13 + 7, none⟩ = some (.int .i64 mo) ∧ wx.cell? ⟨kb, n * 13 + 8, none⟩ = some (.int .i64 ml) ∧ wx.cell? ⟨kb, n * 13 + 9, none⟩ = some (.int .i64 col) ∧
          wx.cell? ⟨kb, n * 13 + 10, none⟩ = some (.int .i64 t0) ∧ wx.cell? ⟨kb, n * 13 + 11, none⟩ = some (.int .i64 t1) ∧ wx.cell? ⟨kb, n * 13 + 12, none⟩ = some (.int .i64 t2))
        case first =>
          have c8 := h3.c8
          have c9 := h3.c9
          have c10 := h3.c10
          have c34 := h3.c34
          have c35 := h3.c35
          have c36 := h3.c36
          have kfz := h3.kfz
          go_region
          all_goals go_wp2_with fail
          go_meet
          case rel =>
            refine ⟨rfl, rfl, ?_, ?_, ?_, ?_, ?_, ?_, ?_⟩
            · repeat (first | with_reducible refine Fr.set ?_ _ _ (by omega) | with_reducible apply Fr.drew | with_reducible refine Fr.drewN ?_ _ | with_reducible exact Fr.refl _ _ _)
            · simp [go_sem, k7, k8, k9, k10, k11, k12]
            · simp [go_sem, k7, k8, k9, k10, k11, k12]
            · simp [go_sem, k7, k8, k9, k10, k11, k12]
            · simp [go_sem, k7, k8, k9, k10, k11, k12]
            · simp [go_sem, k7, k8, k9, k10, k11, k12]
            · simp [go_sem, k7, k8, k9, k10, k11, k12]
        case rest =>
          obtain ⟨rfl, rfl, hF4, d7, d8, d9, d10, d11, d12⟩ := hcut
          have h4 := h3.fr hsk hfk hF4
          clear k7 k8 k9 k10 k11 k12
          have c31 := h4.c31
          have sfz := h4.sfz
          have hall : Fr kb (fun o => n * 13 ≤ o ∧ o < n * 13 + 13) w wc :=
            (((hF1.mono (fun o ho => by omega)).trans (hF2.mono (fun o ho => by omega))).trans (hF3.mono (fun o ho => by omega))).trans (hF4.mono (fun o ho => by omega))
          have hrange : wc.rangeAt kb (n * 13) (newKey (ind == col) (decide (0 < n) && (fk == 10)) af (wrap64 (wrap64 (tk + q) - hd)) chars mo ml col t0 t1 t2) := by
            have e0 : wc.cell? ⟨kb, n * 13, none⟩ = some (.bool true) := by rw [hF4.cel _ (by omega), hF3.cel _ (by omega), hF2.cel _ (by omega)]; exact d0
            have e1 : wc.cell? ⟨kb, n * 13 + 1, none⟩ = some (.bool (ind == col)) := by rw [hF4.cel _ (by omega), hF3.cel _ (by omega), hF2.cel _ (by omega)]; exact d1
            have e3 : wc.cell? ⟨kb, n * 13 + 3, none⟩ = some (.bool false) := by rw [hF4.cel _ (by omega), hF3.cel _ (by omega), hF2.cel _ (by omega)]; exact d3
            have e4 : wc.cell? ⟨kb, n * 13 + 4, none⟩ = some (.bool af) := by rw [hF4.cel _ (by omega), hF3.cel _ (by omega), hF2.cel _ (by omega)]; exact d4
            have e2 : wc.cell? ⟨kb, n * 13 + 2, none⟩ = some (.bool (decide (0 < n) && (fk == 10))) := by rw [hF4.cel _ (by omega), hF3.cel _ (by omega)]; exact d2
            have e5 : wc.cell? ⟨kb, n * 13 + 5, none⟩ = some (.int .i64 (wrap64 (wrap64 (tk + q) - hd))) := by rw [hF4.cel _ (by omega)]; exact d5
            have e6 : wc.cell? ⟨kb, n * 13 + 6, none⟩ = some (.int .i64 chars) := by rw [hF4.cel _ (by omega)]; exact d6
            intro j v hv
            have hj : j < 13 := (List.getElem?_eq_some_iff.1 hv).1
            match j, hj with
            | 0, _ => cases hv; exact e0
            | 1, _ => cases hv; exact e1
            | 2, _ => cases hv; exact e2
            | 3, _ => cases hv; exact e3
            | 4, _ => cases hv; exact e4
            | 5, _ => cases hv; exact e5
            | 6, _ => cases hv; exact e6
            | 7, _ => cases hv; exact d7
            | 8, _ => cases hv; exact d8
            | 9, _ => cases hv; exact d9
            | 10, _ => cases hv; exact d10
            | 11, _ => cases hv; exact d11
            | 12, _ => cases hv; exact d12
          have hset : ∀ v, Fr sb (fun o => o = 31) wc (wc.setCell ⟨sb, 31, none⟩ v) := fun v => (Fr.refl _ _ _).set _ _ rfl
          have hsc : ∀ v, (wc.setCell ⟨sb, 31, none⟩ v).cell? ⟨sb, 31, none⟩ = some v := fun v => World.cell?_setCell_same _ _ _ c31
          clear hF1 hF2 hF3 hF4 d0 d1 d2 d3 d4 d5 d6 d7 d8 d9 d10 d11 d12 h1 h2 h3 h4
          by_cases hlo : (n : Int) < lo
          · have hnl : newLow lo n = n := if_pos hlo
            go_wp2
            go_end0
            exact ⟨rfl, wc, hall, hset _, by first | exact hsc _ | (rw [hnl]; exact hsc _), hrange⟩
          · have hnl : newLow lo n = lo := if_neg hlo
            go_wp2
            go_end0
            exact ⟨rfl, wc, hall, hset _, by first | exact hsc _ | (rw [hnl]; exact hsc _), hrange⟩

/-- No key may start: nothing. -/
theorem save_no (w : World) (sb : Nat) (c32 : w.cell? ⟨sb, 32, none⟩ = some (.bool false)) :
    Calls Yba.prog 7 #[.pointer (some ⟨sb, 0, none⟩)] w fun e w' => e = .returned (.tuple #[]) ∧ w' = w := by
  go_enter Yba.func7, Yba.ntmps7
  go_wp2
  first | go_end0 | refine bodyPost_ret (results_none rfl _ _ _) rfl ?_
  exact ⟨rfl, rfl⟩

/-- The cells that 'zzs1325aprev' gives. -/
def prevKey (i : Nat) : List Value :=
  [.bool false, .bool false, .bool false, .bool true, .bool false, .int .i64 i, .int .i64 (-(i : Int)), .int .i64 0, .int .i64 0, .int .i64 0, .int .i64 0, .int .i64 0, .int .i64 0]

theorem prev_any (i : Nat) (hi : i ≤ 1024) (w : World) :
    Calls Yba.prog 6 #[.int .i64 i] w fun e w' => e = .returned (.agg (prevKey i).toArray) ∧ w' = w.alloc (.cells (prevKey i).toArray 31) := by
  go_enter Yba.func6, Yba.ntmps6
  go_wp2
  exact bodyPost_ret (v := .agg (prevKey i).toArray) (by simp [results, Yba.results6, go_sem, prevKey]) rfl ⟨rfl, by simp [prevKey]⟩

end Go.Proofs.Ybulkaakm.Save
