/-
  LawS1325ASave: THE WALK.
-/
import Derived.Test.YbulkaakmSaveU
namespace Go.Proofs.Ybulkaakm.Save
open Go.RowKit
set_option linter.unusedSimpArgs false
set_option linter.unusedVariables false

set_option maxRecDepth 100000 in
set_option maxHeartbeats 20000000 in
theorem law_any (ka : Bool) (ind col line offs : Int) (af : Bool) (ta tb tc tk hd0 ch lo : Int) (q : Nat) (fa : Option Addr) (n fc : Nat) (Z : Nat → Int) (w : World) (hn : n ≤ maxLen) (q1 : q ≤ 255) (e0 : 0 ≤ hd0) (e1 : hd0 ≤ 255)
    (hF : Holds w fa n (fun j => .int .u8 (Z j))) (hz : ∀ j, j < n → 0 ≤ Z j ∧ Z j ≤ 255) :
    Calls Yba.prog 3 #[.agg (inC ka ind col line offs af ta tb tc tk q hd0 ch lo (.slice fa n fc))] w fun e w' => e = .returned (.bool true) ∧ Below w.heap.size w w' := by
  unfold maxLen at hn
  by_cases hnb : n ≤ 1024
  · have hmk := run_make_row' (P := Yba.prog) 25 26 (.int .u8 0) 1 Yba.underlying25 info26 rfl .i64 .i64 n (by omega) (by omega)
    go_enter Yba.func3, Yba.ntmps3
    go_wp2
    go_loopw [5] (fun i wr => ∃ k : Nat, k ≤ n ∧ i = .int .i64 k ∧ Below (w.heap.size + 1) (w.alloc (.cells (inC ka ind col line offs af ta tb tc tk q hd0 ch lo (.slice fa n fc)) 24)) wr ∧ wr.rowIs (w.heap.size + 1) 26 n (fun j => .int .u8 (if j < k then fkind (Z j) else 0))) (fun i _ => n - (intOf i).toNat)
    case atStart => exact ⟨0, Nat.zero_le _, rfl, (Below.refl _ _).alloc (by simp) _, by have := World.rowIs_made (w.alloc (.cells (inC ka ind col line offs af ta tb tc tk q hd0 ch lo (.slice fa n fc)) 24)) (.int .u8 0) n 26; simp at this; exact this.congr (fun j _ => by simp)⟩
    case round =>
      obtain ⟨k, hk, rfl, hb, hr⟩ := hrel
      have hbw : Below w.heap.size w wr := ((Below.refl _ w).alloc (Nat.le_refl _) _).trans (hb.mono (by omega))
      have c14 : wr.cell? ⟨w.heap.size, 14, none⟩ = some (.slice fa n fc) := by rw [hb.cell (by simp)]; simp
      by_cases hlt : k < n
      · obtain ⟨b, off, rfl, hc⟩ := hF.below hbw (Nat.le_refl _) k hlt
        dsimp only at hc
        have hzk := hz k hlt
        have hcell := hr.cell hlt
        have hfr := hr.frozen k
        have hstep : ∀ v, v = fkind (Z k) → (wr.setCell ⟨w.heap.size + 1, k, none⟩ (.int .u8 v)).rowIs (w.heap.size + 1) 26 n (fun j => .int .u8 (if j < k + 1 then fkind (Z j) else 0)) := by
          rintro v rfl
          refine (hr.set k _).congr fun j _ => ?_
          by_cases e : j = k
          · subst e; simp
          · have e1 : j < k + 1 ↔ j < k := by omega
            simp [e, e1]
        by_cases hodd : Z k % 2 = 1
        · have hodd' : (Z k % 2 == 1) = true := by simp [hodd]
          have hv := hstep 10 (by simp [fkind, hodd])
          clear hstep
          go_wp2
          go_roundw
          case rel => exact ⟨k + 1, by omega, by go_num, hb.setCell (Nat.le_refl _) _, hv⟩
          case measure => simp [intOf]; omega
        · have hodd' : (Z k % 2 == 1) = false := by simp [hodd]
          have hv := hstep 8 (by simp [fkind, hodd])
          clear hstep
          go_wp2
          go_roundw
          case rel => exact ⟨k + 1, by omega, by go_num, hb.setCell (Nat.le_refl _) _, hv⟩
          case measure => simp [intOf]; omega
      · obtain rfl : k = n := by omega
        have hmk2 := make_keys k hnb
        clear hmk hn c14
        obtain ⟨wf, hwf⟩ : ∃ wf, wf = wr := ⟨_, rfl⟩
        subst hwf
        go_wp2
        go_loopw [48] (fun i wr => ∃ j : Nat, j ≤ k + 1 ∧ i = .int .i64 j ∧ Below wf.heap.size wf wr ∧ Keys wr wf.heap.size k j) (fun i _ => k + 1 - (intOf i).toNat)
        case atStart => exact ⟨0, Nat.zero_le _, rfl, (Below.refl _ _).alloc (Nat.le_refl _) _, Keys.made _ _ _⟩
        case round =>
          obtain ⟨j, hj, rfl, hb2, hK⟩ := hrel
          by_cases hlt2 : j < k + 1
          · go_wp2_with fail
            refine (prev_any j (by omega) _).mono ?_
            rintro e w' ⟨rfl, rfl⟩
            have hlk : wf.heap.size < wr.heap.size := by obtain ⟨v, hv⟩ := hK.there 0 0 (Nat.zero_le _) (by omega); exact lt_of_cell hv
            have hset := set13 wr wf.heap.size (j * 13) (.bool false) (.bool false) (.bool false) (.bool true) (.bool false) (.int .i64 j) (.int .i64 (-(j : Int))) (.int .i64 0) (.int .i64 0) (.int .i64 0) (.int .i64 0) (.int .i64 0) (.int .i64 0) (fun x hx => hK.there j x (by omega) hx)
            have Hset := (show Hid _ from hset)
            clear hset
            obtain ⟨u0, k0⟩ := hK.there j 0 (by omega) (by omega)
            obtain ⟨u1, k1⟩ := hK.there j 1 (by omega) (by omega)
            obtain ⟨u2, k2⟩ := hK.there j 2 (by omega) (by omega)
            obtain ⟨u3, k3⟩ := hK.there j 3 (by omega) (by omega)
            obtain ⟨u4, k4⟩ := hK.there j 4 (by omega) (by omega)
            obtain ⟨u5, k5⟩ := hK.there j 5 (by omega) (by omega)
            obtain ⟨u6, k6⟩ := hK.there j 6 (by omega) (by omega)
            obtain ⟨u7, k7⟩ := hK.there j 7 (by omega) (by omega)
            obtain ⟨u8, k8⟩ := hK.there j 8 (by omega) (by omega)
            obtain ⟨u9, k9⟩ := hK.there j 9 (by omega) (by omega)
            obtain ⟨u10, k10⟩ := hK.there j 10 (by omega) (by omega)
            obtain ⟨u11, k11⟩ := hK.there j 11 (by omega) (by omega)
            obtain ⟨u12, k12⟩ := hK.there j 12 (by omega) (by omega)
            have kfz := hK.frz
            rw [Nat.add_zero] at k0
            simp only [prevKey]
            go_wp2
            go_roundw
            case rel => exact ⟨j + 1, by omega, by go_num, (hb2.trans (Hset.out.1.below (Nat.le_refl _))).alloc (by have := hb2.size; simp; omega) _, (hK.step Hset.out.1 Hset.out.2).alloc _⟩
            case measure => simp [intOf]; omega
          · obtain rfl : j = k + 1 := by omega
            clear hmk2
            have hBf : w.heap.size + 1 < wf.heap.size := hr.lt
            have hfl := hr.of_block (hb2.block _ hBf)
            have hbe : Below (w.heap.size + 1) (w.alloc (.cells (inC ka ind col line offs af ta tb tc tk q hd0 ch lo (.slice fa k fc)) 24)) wr := hb.trans (hb2.mono (by omega))
            have hkl : wf.heap.size < wr.heap.size := by obtain ⟨v, hv⟩ := hK.there 0 0 (Nat.zero_le _) (by omega); exact lt_of_cell hv
            generalize wf.heap.size = kb at *
            obtain ⟨wk, hwk⟩ : ∃ wk, wk = wr := ⟨_, rfl⟩
            subst hwk
            have hin : wk.heap[w.heap.size]? = some (.cells (inC ka ind col line offs af ta tb tc tk q hd0 ch lo (.slice fa k fc)) 24 (0, 0)) := by rw [hbe.block _ (by omega)]; exact heap_alloc_new _ _
            have hBk : w.heap.size < wk.heap.size := by omega
            have hBk1 : w.heap.size < wk.heap.size + 1 := by omega
            have hBk2 : w.heap.size < wk.heap.size + 1 + 1 := by omega
            have hBk3 : w.heap.size < wk.heap.size + 1 + 1 + 1 := by omega
            have i0 : wk.cell? ⟨w.heap.size, 0, none⟩ = some (.bool ka) := by simp [World.cell?, hin]
            have i1 : wk.cell? ⟨w.heap.size, 1, none⟩ = some (.int .i64 ind) := by simp [World.cell?, hin]
            have i2 : wk.cell? ⟨w.heap.size, 2, none⟩ = some (.int .i64 col) := by simp [World.cell?, hin]
            have i3 : wk.cell? ⟨w.heap.size, 3, none⟩ = some (.int .i64 line) := by simp [World.cell?, hin]
            have i4 : wk.cell? ⟨w.heap.size, 4, none⟩ = some (.int .i64 offs) := by simp [World.cell?, hin]
            have i5 : wk.cell? ⟨w.heap.size, 5, none⟩ = some (.bool af) := by simp [World.cell?, hin]
            have i6 : wk.cell? ⟨w.heap.size, 6, none⟩ = some (.int .i64 ta) := by simp [World.cell?, hin]
            have i7 : wk.cell? ⟨w.heap.size, 7, none⟩ = some (.int .i64 tb) := by simp [World.cell?, hin]
            have i8 : wk.cell? ⟨w.heap.size, 8, none⟩ = some (.int .i64 tc) := by simp [World.cell?, hin]
            have i9 : wk.cell? ⟨w.heap.size, 9, none⟩ = some (.int .i64 tk) := by simp [World.cell?, hin]
            have i10 : wk.cell? ⟨w.heap.size, 10, none⟩ = some (.int .u8 (q : Int)) := by simp [World.cell?, hin]
            have i11 : wk.cell? ⟨w.heap.size, 11, none⟩ = some (.int .u8 hd0) := by simp [World.cell?, hin]
            have i12 : wk.cell? ⟨w.heap.size, 12, none⟩ = some (.int .i64 ch) := by simp [World.cell?, hin]
            have i13 : wk.cell? ⟨w.heap.size, 13, none⟩ = some (.int .i64 lo) := by simp [World.cell?, hin]
            have i14 : wk.cell? ⟨w.heap.size, 14, none⟩ = some (.slice fa k fc) := by simp [World.cell?, hin]
            clear hin
            go_upto_region 17 with fail
            go_cut [8] from 16 (fun v wx => v = .int .i64 q ∧ wx = wk)
            case first =>
              go_wp2_with fail
              go_meet
              case rel => exact ⟨rfl, rfl⟩
            case rest =>
              obtain ⟨rfl, rfl⟩ := hcut
              refine ‹∀ (a : Act) (w : World), Code.wp Yba.prog _ _ a w → _› _ _ ?_
              exact tail8 _ (by kernel_rfl) ka ind col line offs af ta tb tc tk hd0 ch lo q k fc kb fa Z w wc _ _ _ _ _ _ _ _ _ _ _ _ _ _ _ _ _ _ _ _ _ _ _ _ _ _ _ _ _ _ _ _ _ _ _ _ _ _ _ _ _ _ _ _ _ _ _ _ _ _ _ _ _ _ _ _ _ _ _ _ _ _ _ _ _ _ _ _ _ _ _ _ _ _ _ _ _ _ _ _ _ _ _ _ _ _ _ _ _ _ _ _ _ _ _ _ _ _ _ _ _ _ _ _ _ _ _ _ _ _ _ _ _ _ _ _ _ _ _ _ _ _ _ _ _ _ _ _ _ _ _ _ _ _ _ _ _ _ _ _ _ _ _ _ _ _ _ _ _ _ _ _ _ _ _ _ _ _ _ _ _ _ _ _ _ _ _ _ _ _ _ _ _ _ _ _ _ _ _ _ _ _ _ _ _ _ _ _ _ _ _ _ _ _ _ _ _ hnb q1 e0 e1 hF hz hBf hkl hfl hK hbe i0 i1 i2 i3 i4 i5 i6 i7 i8 i9 i10 i11 i12 i13 i14
  · go_enter Yba.func3, Yba.ntmps3
    go_wp2
    go_ret
    exact ⟨rfl, (Below.refl _ _).alloc (Nat.le_refl _) _⟩

end Go.Proofs.Ybulkaakm.Save
