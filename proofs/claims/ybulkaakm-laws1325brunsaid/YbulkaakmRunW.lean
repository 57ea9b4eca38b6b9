/-
  LawS1325BRun: THE WALK.
-/
import Derived.Test.YbulkaakmRunP
import Derived.Deep.CutRange
namespace Go.Proofs.Ybulkaakm
open Go.RowKit

theorem run_lt_of_cell {w : World} {p : Addr} {v : Value} (h : w.cell? p = some v) : p.block < w.heap.size := by
  unfold World.cell? at h
  split at h
  · rename_i hh; exact (Array.getElem?_eq_some_iff.1 hh).1
  · cases h

theorem run_info3 : (Yba.prog.info? 3).map (fun i => (i.zero, i.size, i.bytes)) = some (some (.int .i64 0), 1, 8) := by kernel_rfl

/-- What the slice of the noted places is: nil, or the head of a row. -/
theorem own_ints {w : World} {base : Nat} {v : Value} {l : List Nat} (h : w.ownsRow base 3 1 v l.length (l.map fun j : Nat => Value.int .i64 j)) :
    ∃ ca cp, v = .slice ca l.length cp ∧ ∀ i, i < l.length → ∃ g, ca = some ⟨g, 0, none⟩ ∧ w.cell? ⟨g, i, none⟩ = some (.int .i64 ((l.getD i 0 : Nat) : Int)) := by
  rcases h.2 with ⟨hv, h0⟩ | ⟨g, cp, cur, hv, _⟩
  · exact ⟨none, 0, by rw [hv, h0], fun i hi => by omega⟩
  · refine ⟨_, cp, hv, fun i hi => ⟨g, rfl, ?_⟩⟩
    rw [hv] at h
    rw [h.cellAt i (by omega)]
    simp [hi]

theorem one_new (w : World) (x : Value) (t : TypeId) (b : Nat) (hb : b = w.heap.size) : ∀ j u, [x][j]? = some u → (w.alloc (.cells #[x] t)).cell? ((⟨b, 0, none⟩ : Addr).add j) = some u := by
  subst hb
  exact cell_one_new w x t

set_option maxRecDepth 100000 in
set_option maxHeartbeats 2000000 in
theorem run_any (a0 : Bool) (nn mask off line : Int) (w : World) (h0 : 0 ≤ nn) (h1 : nn ≤ 255) (_m0 : 0 ≤ mask) (_m1 : mask < 18446744073709551616) (wo : wrap64 off = off) (wl : wrap64 line = line) :
    Calls Yba.prog 5 #[.bool a0, .int .u8 nn, .int .u64 mask, .int .i64 off, .int .i64 line] w fun e w' => e = .returned (.bool true) ∧ Below w.heap.size w w' := by
  obtain ⟨n, hn, hn64⟩ : ∃ n : Nat, nn % 64 = (n : Int) ∧ n < 64 := ⟨(nn % 64).toNat, by omega, by omega⟩
  obtain ⟨i0, hi, hz0, hz1, hz2⟩ := info_parts run_info3
  have Wo : Hid (wrap64 off = off) := wo
  have Wl : Hid (wrap64 line = line) := wl
  clear wo wl
  go_enter Yba.func5, Yba.ntmps5
  go_upto_if 20 with fail
  go_cut [11, 12] from 17 (fun c v wx => c = .int .i64 n ∧ ∃ unit : Int, v = .int .i64 unit ∧ 1 ≤ unit ∧ unit ≤ 2 ∧ wx = w)
  case first =>
    cases a0
    · go_wp2_with fail
      go_meet
      case rel => exact ⟨by first | rfl | rw [hn], 1, rfl, by omega, by omega, rfl⟩
    · go_wp2_with fail
      go_meet
      case rel => exact ⟨by first | rfl | rw [hn], 2, rfl, by omega, by omega, rfl⟩
  case rest =>
    obtain ⟨rfl, unit, rfl, hu0, hu1, rfl⟩ := hcut
    clear hn h0 h1
    obtain ⟨bit, hbit⟩ : ∃ bit : Nat → Bool, ∀ k : Nat, (bits BinOp.and IntKind.u64 (mask / 2 ^ k) 1 == 1) = bit k := ⟨_, fun k => rfl⟩
    have Hbit : Hid (∀ k : Nat, (bits BinOp.and IntKind.u64 (mask / 2 ^ k) 1 == 1) = bit k) := hbit
    clear hbit
    go_wp2
    go_loopw [13, 14] (fun v i wr => ∃ k : Nat, k ≤ n ∧ i = .int .i64 k ∧ wr.ownsRow wc.heap.size 3 1 v (ks bit k).length ((ks bit k).map fun j : Nat => Value.int .i64 j) ∧ Below wc.heap.size wc wr) (fun _ i _ => n - (intOf i).toNat)
    case atStart => exact ⟨0, Nat.zero_le _, rfl, World.ownsRow_nil _ _ _ _, Below.refl _ _⟩
    case round =>
      obtain ⟨k, hk, rfl, hown, hb⟩ := hrel
      have hkl := ks_le bit k
      by_cases hlt : k < n
      · have hbk := Hbit.out k
        have hks := ks_succ bit k
        cases hbb : bit k with
        | false =>
          rw [hbb] at hbk hks
          simp only [Bool.false_eq_true, if_false] at hks
          have Hks : Hid (ks bit (k + 1) = ks bit k) := hks
          clear hks
          go_wp2
          go_roundw
          case rel => exact ⟨k + 1, by omega, by go_num, by rw [Hks.out]; exact hown, hb⟩
          case measure => simp [intOf]; omega
        | true =>
          rw [hbb] at hbk hks
          simp only [if_true] at hks
          have Hks : Hid (ks bit (k + 1) = ks bit k ++ [k]) := hks
          clear hks
          go_wp2_with (at_builtin; refine wpList_append_own _ rfl _ _ 39 rfl wc.heap.size 3 i0 (.int .i64 0) 1 8 Yba.underlying39 hi hz0 hz1 hz2 rfl (by decide) _ _ _ rfl (hown.alloc _) ⟨wr.heap.size, 0, none⟩ 1 1 [.int .i64 k] rfl rfl (one_new _ _ _ _ rfl) (by simp [Value.oneCell']) (by unfold maxLen; omega) (by omega) ?_ ?_)
          · have := hb.size; simp; omega
          · intro v1 w1 hown1 hg1 hnil1
            have hb1 : Below wc.heap.size wc w1 := (hb.alloc hb.size _).grown hg1 (by have := hb.size; simp; omega) (fun j hj => (hown.lt j hj).1)
            go_wp2
            go_roundw
            case rel => exact ⟨k + 1, by omega, by go_num, by rw [Hks.out]; simpa using hown1, hb1⟩
            case measure => simp [intOf]; omega
      · obtain rfl : k = n := by omega
        obtain ⟨ca, cp, hv, hZ⟩ := own_ints hown
        rw [hv]
        clear hown hv hi hz0 hz1 hz2
        have hst := rdAt_zero unit off line (.slice ca (ks bit k).length cp) Wo.out Wl.out
        have Hst : Hid (rdObj unit 0 off line 5 0 (.slice ca (ks bit k).length cp) 0 = rdAt unit off line (.slice ca (ks bit k).length cp) 0 0) := hst
        clear hst
        obtain ⟨wo, hwo⟩ : ∃ wo, wo = wr := ⟨_, rfl⟩
        subst hwo
        go_wp2
        go_loopw [16] (fun i wr => ∃ q : Nat, q ≤ k ∧ i = .int .i64 q ∧ wr.heap[wo.heap.size]? = some (rdAt unit off line (.slice ca (ks bit k).length cp) q (ks bit q).length) ∧ Below wo.heap.size wo wr) (fun i _ => k - (intOf i).toNat)
        case atStart => exact ⟨0, Nat.zero_le _, rfl, by rw [heap_alloc_new]; exact congrArg some Hst.out, (Below.refl _ _).alloc (Nat.le_refl _) _⟩
        case round =>
          obtain ⟨q, hq, rfl, hr, hb2⟩ := hrel
          by_cases hlt2 : q < k
          · have hkl2 := ks_le bit q
            have hks := ks_succ bit q
            go_wp2_with fail
            cases hbq : bit q with
            | true =>
              obtain ⟨hl, he⟩ := ks_hit bit k q hlt2 hbq
              obtain ⟨g, rfl, hcg⟩ := hZ _ hl
              rw [he] at hcg
              have hcg2 : wr.cell? ⟨g, (ks bit q).length, none⟩ = some (.int .i64 q) := by rw [hb2.cell (run_lt_of_cell hcg)]; exact hcg
              refine (skip_hit wo.heap.size (ks bit q).length (ks bit k).length cp unit q _ _ _ q g _ hu0 hu1 (by omega) hl hr hcg2).mono ?_
              rintro e w' ⟨rfl, hr', hg'⟩
              rw [rdAt_hit unit off line _ q (ks bit q).length (by omega)] at hr'
              have hks' : (ks bit (q + 1)).length = (ks bit q).length + 1 := by rw [hks, if_pos hbq]; simp
              have hnext : w'.heap[wo.heap.size]? = some (rdAt unit off line (.slice (some ⟨g, 0, none⟩) (ks bit k).length cp) (q + 1) (ks bit (q + 1)).length) := by rw [hks']; exact hr'
              have hb3 : Below wo.heap.size wo w' := hb2.grown hg' hb2.size (fun j hj => by cases hj; exact Nat.le_refl _)
              clear hr' hg' hks hks' hr
              go_wp2
              go_roundw
              case rel => exact ⟨q + 1, by omega, by go_num, hnext, hb3⟩
              case measure => simp [intOf]; omega
            | false =>
              have hks' : (ks bit (q + 1)).length = (ks bit q).length := by rw [hks]; simp [hbq]
              by_cases hl : (ks bit q).length < (ks bit k).length
              · have he := ks_miss bit k q hbq hl
                obtain ⟨g, rfl, hcg⟩ := hZ _ hl
                have hcg2 : wr.cell? ⟨g, (ks bit q).length, none⟩ = some (.int .i64 (((ks bit k).getD (ks bit q).length 0 : Nat) : Int)) := by rw [hb2.cell (run_lt_of_cell hcg)]; exact hcg
                refine (skip_other wo.heap.size (ks bit q).length (ks bit k).length cp unit q _ _ _ q _ g _ hl (beq_eq_false_iff_ne.2 (by omega)) hr hcg2).mono ?_
                rintro e w' ⟨rfl, hr', hg'⟩
                rw [rdAt_miss unit off line _ q (ks bit q).length (by omega)] at hr'
                have hnext : w'.heap[wo.heap.size]? = some (rdAt unit off line (.slice (some ⟨g, 0, none⟩) (ks bit k).length cp) (q + 1) (ks bit (q + 1)).length) := by rw [hks']; exact hr'
                have hb3 : Below wo.heap.size wo w' := hb2.grown hg' hb2.size (fun j hj => by cases hj; exact Nat.le_refl _)
                clear hr' hg' hks hks' hr
                go_wp2
                go_roundw
                case rel => exact ⟨q + 1, by omega, by go_num, hnext, hb3⟩
                case measure => simp [intOf]; omega
              · refine (skip_past wo.heap.size (ks bit q).length (ks bit k).length cp unit q _ _ _ q ca _ hl hr).mono ?_
                rintro e w' ⟨rfl, hr', hg'⟩
                rw [rdAt_miss unit off line _ q (ks bit q).length (by omega)] at hr'
                have hnext : w'.heap[wo.heap.size]? = some (rdAt unit off line (.slice ca (ks bit k).length cp) (q + 1) (ks bit (q + 1)).length) := by rw [hks']; exact hr'
                have hb3 : Below wo.heap.size wo w' := hb2.grown hg' hb2.size (fun j hj => by cases hj; exact Nat.le_refl _)
                clear hr' hg' hks hks' hr
                go_wp2
                go_roundw
                case rel => exact ⟨q + 1, by omega, by go_num, hnext, hb3⟩
                case measure => simp [intOf]; omega
          · obtain rfl : q = k := by omega
            have c7 : wr.cell? ⟨wo.heap.size, 7, none⟩ = some (.int .i64 q) := by simp [World.cell?, hr, rdAt]
            have c8 : wr.cell? ⟨wo.heap.size, 8, none⟩ = some (.int .i64 (wrap64 (off + unit * ((q : Int) + ((ks bit q).length : Int))))) := by simp [World.cell?, hr, rdAt]
            have c9 : wr.cell? ⟨wo.heap.size, 9, none⟩ = some (.int .i64 (wrap64 (line + q))) := by simp [World.cell?, hr, rdAt]
            have c10 : wr.cell? ⟨wo.heap.size, 10, none⟩ = some (.int .i64 (if q = 0 then 5 else 0)) := by simp [World.cell?, hr, rdAt]
            have c11 : wr.cell? ⟨wo.heap.size, 11, none⟩ = some (.int .i64 q) := by simp [World.cell?, hr, rdAt]
            have c13 : wr.cell? ⟨wo.heap.size, 13, none⟩ = some (.int .i64 ((ks bit q).length : Int)) := by simp [World.cell?, hr, rdAt]
            have hfin : Below wc.heap.size wc wr := hb.trans (hb2.mono hb.size)
            clear hr hb2 hZ Hst
            generalize (ks bit q).length = c at *
            by_cases hq0 : q = 0
            · rw [if_pos hq0] at c10
              have hq0' : ((q : Int) == 0) = true := by simp [hq0]
              rcases (by omega : unit = 1 ∨ unit = 2) with rfl | rfl
              · go_wp2
                go_ret
                exact ⟨by simp, hfin⟩
              · go_wp2
                go_ret
                exact ⟨by simp, hfin⟩
            · rw [if_neg hq0] at c10
              have hq0' : ((q : Int) == 0) = false := by simp; omega
              rcases (by omega : unit = 1 ∨ unit = 2) with rfl | rfl
              · go_wp2
                go_ret
                exact ⟨by simp, hfin⟩
              · go_wp2
                go_ret
                exact ⟨by simp, hfin⟩

end Go.Proofs.Ybulkaakm
