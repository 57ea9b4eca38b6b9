/-
  LawS1324BChainWon: THE WALK.
-/
import Derived.Test.YbulkaajyChain
import Derived.Lib.JoinLaws
import Derived.Deep.CutRange
namespace Go.Proofs.Ybulkaajy
open Go.RowKit Go.MuLone

/-- What is known of a slice that came in: wherever there is an element, the slice leads to a row, and cell i holds 'f i'. -/
def Holds (w : World) (a : Option Addr) (len : Nat) (f : Nat → Value) : Prop := ∀ i, i < len → ∃ b off, a = some ⟨b, off, none⟩ ∧ w.cell? ⟨b, off + i, none⟩ = some (f i)

theorem lt_of_cell {w : World} {p : Addr} {v : Value} (h : w.cell? p = some v) : p.block < w.heap.size := by
  unfold World.cell? at h
  split at h
  · rename_i hh; exact (Array.getElem?_eq_some_iff.1 hh).1
  · cases h

theorem Holds.below {w w' : World} {a : Option Addr} {len : Nat} {f : Nat → Value} (h : Holds w a len f) {B : Nat} (hb : Below B w w') (hB : w.heap.size ≤ B) : Holds w' a len f := by
  intro i hi
  obtain ⟨b, off, ha, hc⟩ := h i hi
  exact ⟨b, off, ha, by rw [hb.cell (Nat.lt_of_lt_of_le (lt_of_cell hc) hB), hc]⟩

theorem one_new (w : World) (x : Value) (t : TypeId) (b : Nat) (hb : b = w.heap.size) : ∀ j u, [x][j]? = some u → (w.alloc (.cells #[x] t)).cell? ((⟨b, 0, none⟩ : Addr).add j) = some u := by
  subst hb
  exact cell_one_new w x t

theorem own_shape {w : World} {base e : Nat} {v : Value} {n : Nat} {xs : List Value} (h : w.ownsRow base e 1 v n xs) (hn : 0 < n) : ∃ g cap, v = .slice (some ⟨g, 0, none⟩) n cap := by
  rcases h.2 with ⟨_, h0⟩ | ⟨g, cap, cur, hv, _⟩
  · omega
  · exact ⟨g, cap, hv⟩

theorem info22 : (Yba.prog.info? 22).map (fun i => (i.zero, i.size, i.bytes)) = some (some (.pointer none), 1, 8) := by kernel_rfl

/-- What the spans' 'chosen' holds as they are built. -/
def chs0 (ini : Nat → Bool) : Nat → Bool
  | 0 => false
  | i + 1 => ini i

/-- .. behind q rounds of the second loop. -/
def chosenAt (ini pk : Nat → Bool) (m q : Nat) : Nat → Bool
  | 0 => false
  | j + 1 => ini j || (decide (j < q) && (decide (j < m) && pk j))

theorem chosenAt_zero (ini pk : Nat → Bool) (m : Nat) : chosenAt ini pk m 0 = chs0 ini := by
  funext j
  cases j <;> simp [chosenAt, chs0]

theorem chosenAt_hit (ini pk : Nat → Bool) (m q : Nat) (hq : q < m) (hp : pk q = true) : (fun j => if j = q + 1 then true else chosenAt ini pk m q j) = chosenAt ini pk m (q + 1) := by
  funext j
  cases j with
  | zero => simp [chosenAt]
  | succ j =>
    by_cases e : j = q
    · subst e; simp [chosenAt, hq, hp]
    · have e1 : j < q + 1 ↔ j < q := by omega
      simp [chosenAt, e, e1]

theorem chosenAt_miss (ini pk : Nat → Bool) (m q : Nat) (h : q < m → pk q = false) : chosenAt ini pk m q = chosenAt ini pk m (q + 1) := by
  funext j
  cases j with
  | zero => simp [chosenAt]
  | succ j =>
    by_cases e : j = q
    · subst e
      by_cases hm : j < m
      · simp [chosenAt, h hm]
      · simp [chosenAt, hm]
    · have e1 : j < q + 1 ↔ j < q := by omega
      simp [chosenAt, e1]

theorem allTo_succ (ch : Nat → Bool) (n : Nat) : allTo ch (n + 1) = (allTo ch n && ch (n + 1)) := by
  unfold allTo
  rw [List.range_succ, List.all_append]
  simp

theorem St.link {B : Nat} {w wx : World} {n k m kr : Nat} {sp : Nat → Nat} {chs : Nat → Bool} {sv : Value} (h : St B w wx n k m kr sp chs sv) (q : Nat) (hq : q < k) : wx.cell? ⟨B + 2, q, none⟩ = some (.pointer (some ⟨sp (q + 1), 0, none⟩)) := by
  rw [h.row.cellAt q (by omega)]
  simp [hq]

set_option maxRecDepth 100000 in
set_option maxHeartbeats 1000000 in
theorem chain_any (a0 : Option Addr) (n c0 : Nat) (ini : Nat → Bool) (a1 : Option Addr) (m c1 : Nat) (pk : Nat → Bool) (w : World) (hn : n ≤ maxLen) (hm : m ≤ maxLen)
    (h0 : Holds w a0 n (fun i => .bool (ini i))) (h1 : Holds w a1 m (fun j => .bool (pk j))) :
    Calls Yba.prog 4 #[.slice a0 n c0, .slice a1 m c1] w fun e w' => e = .returned (.bool true) ∧ Below w.heap.size w w' := by
  unfold maxLen at hn hm
  obtain ⟨i0, hi, hz0, hz1, hz2⟩ := info_parts info22
  by_cases hnb : n ≤ 1024
  · have hmk := run_make_room (P := Yba.prog) 32 22 (.pointer none) 8 Yba.underlying32 info22 rfl .i64 .i64 n (by omega) (by omega)
    go_enter Yba.func4, Yba.ntmps4
    go_wp2
    go_loopw [8, 9, 10] (fun c s i wr => ∃ (k : Nat) (sp : Nat → Nat) (sv : Value), k ≤ n ∧ i = .int .i64 k ∧ s = .pointer (some ⟨sp k, 0, none⟩) ∧ c = .slice (some ⟨w.heap.size + 2, 0, none⟩) k n ∧ St w.heap.size w wr n k k k sp (chs0 ini) sv) (fun _ _ i _ => n - (intOf i).toNat)
    case atStart => exact ⟨0, _, _, Nat.zero_le _, rfl, rfl, rfl, St.start w n (by unfold maxLen; omega) (chs0 ini) rfl⟩
    case round =>
      obtain ⟨k, sp, sv, hk, rfl, rfl, rfl, hS⟩ := hrel
      by_cases hlt : k < n
      · obtain ⟨b, off, rfl, hc⟩ := h0.below hS.below (Nat.le_refl _) k hlt
        dsimp only at hc
        have hbl : b < wr.heap.size := lt_of_cell hc
        go_upto_region 12 with fail
        obtain ⟨ck, hbk, hck⟩ := hS.span k (Nat.le_refl _)
        obtain rfl := hck rfl
        have hskl := lt_of_blk hbk
        have hcbl := (hS.row.lt _ rfl).2
        have hcc : wr.cell? ⟨sp k, 2, none⟩ = some (.slice none 0 0) := by simp [World.cell?, hbk]
        have hfc : wr.frozen? ⟨sp k, 2, none⟩ = false := by simp [World.frozen?, hbk]
        go_cut [11] from 29 to 66 (fun v wx => ∃ sp' : Nat → Nat, v = .pointer (some ⟨sp' (k + 1), 0, none⟩) ∧ St w.heap.size w wx n k (k + 1) k sp' (chs0 ini) sv)
        case first =>
          go_wp2_with (at_builtin; (refine wpList_append_own _ rfl _ _ 32 rfl (w.heap.size + 3) 22 i0 (.pointer none) 1 8 Yba.underlying32 hi hz0 hz1 hz2 rfl (by decide) _ _ _ rfl (World.ownsRow_nil _ _ _ _) ⟨wr.heap.size + 1, 0, none⟩ 1 1 [.pointer (some ⟨wr.heap.size, 0, none⟩)] rfl rfl (one_new _ _ _ _ (by simp)) (by simp [Value.oneCell']) (by decide) (by decide) ?_ ?_))
          · omega
          · intro v3 w3 hown3 hg3 hnil3
            obtain ⟨g3, p3, hv3⟩ := own_shape hown3 (by omega)
            rw [hv3]
            have hb3 : w3.heap[sp k]? = wr.heap[sp k]? := by
              rw [hg3.block (sp k) (by simp; omega) (by simp [Value.ownBlock]), Below.heap_alloc _ _ _ (by simp; omega), Below.heap_alloc _ _ _ hskl]
            have hcc3 : w3.cell? ⟨sp k, 2, none⟩ = some (.slice none 0 0) := by rw [World.cell?_of_block (w := wr) hb3]; exact hcc
            have hfc3 : w3.frozen? ⟨sp k, 2, none⟩ = false := by rw [World.frozen?_of_block (w := wr) hb3]; exact hfc
            have hH : ∀ v, St w.heap.size w (w3.setCell ⟨sp k, 2, none⟩ v) n k (k + 1) k (fun i => if i = k + 1 then wr.heap.size else sp i) (chs0 ini) sv := fun v => hS.hang hg3
            go_wp2_with fail
            go_meet
            case rel => exact ⟨_, by simp, hH _⟩
        case rest =>
          obtain ⟨sp', rfl, hS1⟩ := hcut
          go_upto_region 13 with fail
          go_cut [11] from 29 to 66 (fun v wx => ∃ sv' : Value, v = .pointer (some ⟨sp' (k + 1), 0, none⟩) ∧ St w.heap.size w wx n k (k + 1) (k + 1) sp' (chs0 ini) sv')
          case first =>
            obtain ⟨xs, hox⟩ := hS1.own
            have hrl := lt_of_blk hS1.rcd
            have hcb1 := (hS1.row.lt _ rfl).2
            have hcr : wc.cell? ⟨w.heap.size, 3, none⟩ = some sv := by simp [World.cell?, hS1.rcd]
            have hfr : wc.frozen? ⟨w.heap.size, 3, none⟩ = false := by simp [World.frozen?, hS1.rcd]
            go_wp2_with (at_builtin; (refine wpList_append_own _ rfl _ _ 32 rfl (w.heap.size + 3) 22 i0 (.pointer none) 1 8 Yba.underlying32 hi hz0 hz1 hz2 rfl (by decide) _ _ _ rfl (hox.alloc _) ⟨wc.heap.size, 0, none⟩ 1 1 [.pointer (some ⟨sp' (k + 1), 0, none⟩)] rfl rfl (one_new _ _ _ _ (by simp)) (by simp [Value.oneCell']) (by unfold maxLen; omega) (by omega) ?_ ?_))
            · omega
            · intro v6 w6 hown6 hg6 hnil6
              obtain ⟨g6, p6, hv6⟩ := own_shape hown6 (by omega)
              have hb6 : w6.heap[w.heap.size]? = wc.heap[w.heap.size]? := by
                rw [hg6.block w.heap.size (by simp; omega) (fun e => by have := (hox.lt _ e.symm).1; omega), Below.heap_alloc _ _ _ hrl]
              have hcr6 : w6.cell? ⟨w.heap.size, 3, none⟩ = some sv := by rw [World.cell?_of_block (w := wc) hb6]; exact hcr
              have hfr6 : w6.frozen? ⟨w.heap.size, 3, none⟩ = false := by rw [World.frozen?_of_block (w := wc) hb6]; exact hfr
              have hN := hS1.noted hg6 hown6
              rw [hv6] at hN ⊢
              go_wp2_with fail
              go_meet
              case rel => exact ⟨_, rfl, hN⟩
          case rest =>
            obtain ⟨sv', rfl, hS2⟩ := hcut
            have hcb2 := (hS2.row.lt _ rfl).2
            go_wp2_with (at_builtin; (refine wpList_append_fits _ rfl _ _ 32 rfl (w.heap.size + 2) 22 i0 1 Yba.underlying32 hi hz1 (w.heap.size + 2) k n _ rfl (hS2.row.alloc _) ⟨wc.heap.size, 0, none⟩ 1 1 [.pointer (some ⟨sp' (k + 1), 0, none⟩)] rfl rfl (one_new _ _ _ _ (by simp)) (by simp [Value.oneCell']) (by omega) ?_; intro w9 hown9 hg9))
            exact ⟨⟨k + 1, sp', sv', by omega, by go_num, rfl, rfl, hS2.linked hg9 hown9⟩, by simp [intOf]; omega⟩
      · obtain rfl : k = n := by omega
        clear hmk hi hz0 hz1 hz2
        go_wp2
        go_loopw [12] (fun i wr => ∃ q : Nat, q ≤ k ∧ i = .int .i64 q ∧ St w.heap.size w wr k k k k sp (chosenAt ini pk m q) sv) (fun i _ => k - (intOf i).toNat)
        case atStart => exact ⟨0, Nat.zero_le _, rfl, by rw [chosenAt_zero]; exact hS⟩
        case round =>
          clear hS
          obtain ⟨q, hq, rfl, hS⟩ := hrel
          by_cases hlt2 : q < k
          · have hlk := hS.link q hlt2
            obtain ⟨cq, hbq, _⟩ := hS.span (q + 1) (by omega)
            by_cases hqm : q < m
            · obtain ⟨b, off, rfl, hc⟩ := h1.below hS.below (Nat.le_refl _) q hqm
              dsimp only at hc
              cases hpq : pk q with
              | true =>
                rw [hpq] at hc
                have hst := hS.choose (q + 1) (by omega)
                rw [chosenAt_hit ini pk m q hqm hpq] at hst
                go_wp2_with fail
                refine (choose_any (sp (q + 1)) w.heap.size (.bool (chosenAt ini pk m q (q + 1))) _ (by simp [World.cell?, hbq]) (by simp [World.cell?, hS.rcd]) (by simp [World.frozen?, hS.rcd]) (by simp [World.cell?, hbq]) (by simp [World.frozen?, hbq])).mono ?_
                rintro e w' ⟨rfl, rfl⟩
                go_wp2
                go_roundw
                case rel => exact ⟨q + 1, by omega, by go_num, hst⟩
                case measure => simp [intOf]; omega
              | false =>
                rw [hpq] at hc
                have hst := hS
                rw [chosenAt_miss ini pk m q (fun _ => hpq)] at hst
                go_wp2
                go_roundw
                case rel => exact ⟨q + 1, by omega, by go_num, hst⟩
                case measure => simp [intOf]; omega
            · have hst := hS
              rw [chosenAt_miss ini pk m q (fun h => absurd h hqm)] at hst
              go_wp2
              go_roundw
              case rel => exact ⟨q + 1, by omega, by go_num, hst⟩
              case measure => simp [intOf]; omega
          · obtain rfl : q = k := by omega
            have hF0 : chosenAt ini pk m q 0 = false := rfl
            have hFv : ∀ p, p < q → chosenAt ini pk m q (p + 1) = (ini p || (decide (p < m) && pk p)) := fun p hp => by simp [chosenAt, hp]
            generalize chosenAt ini pk m q = F at hS hF0 hFv
            go_wp2
            go_loop [13, 14] (fun a i => ∃ p : Nat, p ≤ q ∧ i = .int .i64 p ∧ a = .bool (allTo F p)) (fun _ i => q - (intOf i).toNat)
            case atStart => exact ⟨0, Nat.zero_le _, rfl, rfl⟩
            case round =>
              obtain ⟨p, hp, rfl, rfl⟩ := hrel
              by_cases hlt3 : p < q
              · have hlk := hS.link p hlt3
                obtain ⟨cp, hbp, _⟩ := hS.span (p + 1) (by omega)
                have hch : wr.cell? ⟨sp (p + 1), 11, none⟩ = some (.bool (F (p + 1))) := by simp [World.cell?, hbp]
                have hfo : wr.cell? ⟨sp (p + 1), 12, none⟩ = some (.bool false) := by simp [World.cell?, hbp]
                have hsucc := allTo_succ F p
                have hFp := hFv p hlt3
                obtain ⟨b, off, rfl, hc⟩ := h0.below hS.below (Nat.le_refl _) p hlt3
                dsimp only at hc
                clear hFv hbp
                cases hip : ini p with
                | true =>
                  obtain hFt : F (p + 1) = true := by rw [hFp, hip]; rfl
                  rw [hip] at hc
                  rw [hFt] at hch
                  have Hst : Hid (allTo F p = allTo F (p + 1)) := by show _ = _; rw [hsucc, hFt]; simp
                  clear hFp hsucc hFt hip
                  go_wp2
                  exact ⟨⟨p + 1, by omega, by go_num, by rw [Hst.out]⟩, by simp [intOf]; omega⟩
                | false =>
                  rw [hip] at hc
                  by_cases hpm : p < m
                  · obtain ⟨b', off', rfl, hc'⟩ := h1.below hS.below (Nat.le_refl _) p hpm
                    dsimp only at hc'
                    cases hpp : pk p with
                    | true =>
                      obtain hFt : F (p + 1) = true := by rw [hFp, hip, hpp]; simp [hpm]
                      rw [hpp] at hc'
                      rw [hFt] at hch
                      have Hst : Hid (allTo F p = allTo F (p + 1)) := by show _ = _; rw [hsucc, hFt]; simp
                      clear hFp hsucc hFt hip hpp
                      go_wp2
                      exact ⟨⟨p + 1, by omega, by go_num, by rw [Hst.out]⟩, by simp [intOf]; omega⟩
                    | false =>
                      obtain hFt : F (p + 1) = false := by rw [hFp, hip, hpp]; simp
                      rw [hpp] at hc'
                      rw [hFt] at hch
                      have Hst : Hid (false = allTo F (p + 1)) := by show _ = _; rw [hsucc, hFt]; simp
                      clear hFp hsucc hFt hip hpp
                      go_wp2
                      exact ⟨⟨p + 1, by omega, by go_num, by rw [← Hst.out]⟩, by simp [intOf]; omega⟩
                  · obtain hFt : F (p + 1) = false := by rw [hFp, hip]; simp [hpm]
                    rw [hFt] at hch
                    have Hst : Hid (false = allTo F (p + 1)) := by show _ = _; rw [hsucc, hFt]; simp
                    clear hFp hsucc hFt hip
                    go_wp2
                    exact ⟨⟨p + 1, by omega, by go_num, by rw [← Hst.out]⟩, by simp [intOf]; omega⟩
              · obtain rfl : p = q := by omega
                obtain ⟨cr, hbr, _⟩ := hS.span 0 (Nat.zero_le _)
                rw [hS.sp0, hF0] at hbr
                have hrch : wr.cell? ⟨w.heap.size + 1, 11, none⟩ = some (.bool false) := by simp [World.cell?, hbr]
                have hl0 : wr.cell? ⟨w.heap.size, 1, none⟩ = some (.int .i32 0) := by simp [World.cell?, hS.rcd]
                have hf0 : wr.frozen? ⟨w.heap.size, 1, none⟩ = false := by simp [World.frozen?, hS.rcd]
                have hcp : ∀ (v1 v2 : Value) (i o : Nat), i ≤ p → ((wr.setCell ⟨w.heap.size, 1, none⟩ v1).setCell ⟨w.heap.size, 1, none⟩ v2).cell? ⟨sp i, o, none⟩ = wr.cell? ⟨sp i, o, none⟩ := by
                  intro v1 v2 i o hi
                  have hne := (hS.ne0 i hi).1
                  rw [World.cell?_of_block (w := wr)]
                  rw [heap_set_other (by simpa using hne), heap_set_other (by simpa using hne)]
                have hwn := fun v1 v2 => won_any sp F p ((wr.setCell ⟨w.heap.size, 1, none⟩ v1).setCell ⟨w.heap.size, 1, none⟩ v2)
                  (by rw [hcp _ _ 0 1 (Nat.zero_le _), hS.sp0]; simp [World.cell?, hbr, par])
                  (fun i hi => by obtain ⟨c, hb, _⟩ := hS.span (i + 1) (by omega); rw [hcp _ _ (i + 1) 1 (by omega)]; simp [World.cell?, hb, par])
                  (fun i hi => by obtain ⟨c, hb, _⟩ := hS.span (i + 1) (by omega); rw [hcp _ _ (i + 1) 11 (by omega)]; simp [World.cell?, hb])
                have hbel : ∀ v1 v2, Below w.heap.size w ((wr.setCell ⟨w.heap.size, 1, none⟩ v1).setCell ⟨w.heap.size, 1, none⟩ v2) := fun v1 v2 => (hS.below.setCell (Nat.le_refl _) _).setCell (Nat.le_refl _) _
                clear hcp
                have Hwn : Hid (∀ v1 v2, Calls Yba.prog 8 #[.pointer (some ⟨sp p, 0, none⟩)] ((wr.setCell ⟨w.heap.size, 1, none⟩ v1).setCell ⟨w.heap.size, 1, none⟩ v2) fun e w' => e = .returned (.bool (allTo F p)) ∧ w' = (wr.setCell ⟨w.heap.size, 1, none⟩ v1).setCell ⟨w.heap.size, 1, none⟩ v2) := hwn
                clear hwn
                go_wp2_with fail
                refine (try_free ⟨w.heap.size, 1, none⟩ _ hl0 hf0).mono ?_
                rintro e w' ⟨rfl, rfl⟩
                go_wp2_with fail
                refine (unlock_held muLib ⟨w.heap.size, 1, none⟩ _ (World.cell?_setCell_same _ _ _ hl0) (by rw [World.frozen?_setCell]; exact hf0)).mono ?_
                rintro e w' ⟨rfl, rfl⟩
                go_wp2_with fail
                refine (Hwn.out _ _).mono ?_
                rintro e w' ⟨rfl, rfl⟩
                go_wp2
                go_ret
                exact ⟨by simp, hbel _ _⟩
  · go_enter Yba.func4, Yba.ntmps4
    go_wp2
    go_ret
    exact ⟨rfl, Below.refl _ _⟩

end Go.Proofs.Ybulkaajy
