/-
  THE LAW's WALK.
-/
import Derived.Test.YbulkaajkFmtW4
import Derived.Deep.CutRange
namespace Go.Proofs.YbulkaajkFmt
open Go.RowKit Go.Extern.Stop Go.Stop Go.Extern

/-- What is known of a slice that came in: wherever there is an element, the slice leads to a row, and cell i holds 'f i'. -/
def Holds (w : World) (a : Option Addr) (len : Nat) (f : Nat → Value) : Prop := ∀ i, i < len → ∃ b off, a = some ⟨b, off, none⟩ ∧ w.cell? ⟨b, off + i, none⟩ = some (f i)

theorem Holds.below {w w' : World} {a : Option Addr} {len : Nat} {f : Nat → Value} (h : Holds w a len f) {B : Nat} (hb : Below B w w') (hB : w.heap.size ≤ B) : Holds w' a len f := by
  intro i hi
  obtain ⟨b, off, ha, hc⟩ := h i hi
  exact ⟨b, off, ha, by rw [hb.cell (Nat.lt_of_lt_of_le (lt_of_cell hc) hB), hc]⟩

theorem want_succ (q self m : Nat) (L : Nat → Nat) (Z : Nat → Nat → Int) (Rq : Nat → Int) : Want (q + 1) self m L Z Rq ↔ Want q self m L Z Rq ∨ (q ≠ self ∧ ∃ j, j < m ∧ codeOf (Rq j) ∈ codesOf (L q) (Z q)) := by
  constructor
  · rintro ⟨i, hi, hne, h⟩
    by_cases e : i = q
    · subst e; exact .inr ⟨hne, h⟩
    · exact .inl ⟨i, by omega, hne, h⟩
  · rintro (⟨i, hi, hne, h⟩ | ⟨hne, h⟩)
    · exact ⟨i, by omega, hne, h⟩
    · exact ⟨q, by omega, hne, h⟩

theorem codeOf_size (b : Int) : (codeOf b).size ≤ maxLen := by
  unfold codeOf
  split
  · decide
  · split
    · decide
    · split
      · decide
      · split <;> decide

theorem info27 : (Ybaf.prog.info? 27).map (fun i => (i.zero, i.size, i.bytes)) = some (some (.pointer none), 1, 8) := by kernel_rfl
theorem info9 : (Ybaf.prog.info? 9).map (fun i => (i.zero, i.size, i.bytes)) = some (some (.string ⟨#[]⟩), 1, 16) := by kernel_rfl

set_option maxRecDepth 100000 in
set_option maxHeartbeats 1000000 in
theorem law_any (F : Interp) (a0 : Option Addr) (n c0 : Nat) (A : Nat → Option Addr) (L C : Nat → Nat) (Z : Nat → Nat → Int) (a1 : Option Addr) (m c1 : Nat) (Rq : Nat → Int) (sel : Int) (w : World)
    (hF : F.answers w.tape) (hn : n ≤ maxLen) (hm : m ≤ maxLen) (hL : ∀ i, i < n → L i ≤ maxLen)
    (h0 : Holds w a0 n (fun i => .slice (A i) (L i) (C i))) (h1 : ∀ i, i < n → Holds w (A i) (L i) (fun j => .int .u8 (Z i j))) (hz : ∀ i j, i < n → j < L i → 0 ≤ Z i j ∧ Z i j ≤ 255)
    (h2 : Holds w a1 m (fun j => .int .u8 (Rq j))) (hr : ∀ j, j < m → 0 ≤ Rq j ∧ Rq j ≤ 255) (hs0 : 0 ≤ sel) (hs1 : sel ≤ 255) :
    Calls Ybaf.prog 3 #[.slice a0 n c0, .slice a1 m c1, .int .u8 sel] w fun e w' => e = .returned (.bool true) ∧ Below w.heap.size w w' := by
  unfold maxLen at hn hm hL
  by_cases hnb : n ≤ 1024
  · by_cases hmb : m ≤ 1024
    · have hmk := run_make_row' (P := Ybaf.prog) 24 27 (.pointer none) 8 Ybaf.underlying24 info27 rfl .i64 .i64 n (by omega) (by omega)
      go_enter Ybaf.func3, Ybaf.ntmps3
      go_wp2
      go_loop [36] (fun i => ∃ k : Nat, k ≤ n ∧ i = .int .i64 k ∧ ∀ j, j < k → L j ≤ 1024) (fun i => n - (intOf i).toNat)
      case atStart => exact ⟨0, Nat.zero_le _, rfl, fun j hj => by omega⟩
      case round =>
        obtain ⟨k, hk, rfl, hlk⟩ := hrel
        by_cases hlt : k < n
        · obtain ⟨b, off, rfl, hc⟩ := h0 k hlt
          have hLk := hL k hlt
          go_wp2
          · go_ret
            exact ⟨rfl, Below.refl _ _⟩
          · refine ⟨⟨k + 1, by omega, by go_num, ?_⟩, by simp [intOf]; omega⟩
            intro j hj
            by_cases e : j = k
            · subst e; omega
            · exact hlk j (by omega)
        · have hLs : ∀ i, i < n → L i ≤ 1024 := fun i hi => hlk i (by omega)
          clear hlk hL
          go_wp2
          go_loopw [11] (fun i wr => ∃ (k : Nat) (ent cb : Nat → Nat), k ≤ n ∧ i = .int .i64 k ∧ Built w wr n k ent cb L Z) (fun i _ => n - (intOf i).toNat)
          case atStart => exact ⟨0, fun _ => 0, fun _ => 0, Nat.zero_le _, rfl, Built.start _ _ _ _ _ _⟩
          case round =>
            obtain ⟨k, ent, cb, hk, rfl, hB⟩ := hrel
            obtain ⟨wo, hwo⟩ : ∃ wo, wo = wr := ⟨_, rfl⟩
            subst hwo
            by_cases hlt : k < n
            · obtain ⟨b, off, rfl, hc⟩ := h0.below hB.below (Nat.le_refl _) k hlt
              have hLk := hLs k hlt
              have hrow := (h1 k hlt).below hB.below (Nat.le_refl _)
              have hmk2 := run_make_row' (P := Ybaf.prog) 25 9 (.string ⟨#[]⟩) 16 Ybaf.underlying25 info9 rfl .i64 .i64 (L k) (by omega) (by omega)
              have hbl : b < wo.heap.size := lt_of_cell hc
              dsimp only at hc
              generalize A k = ak at hc hrow
              go_wp2
              go_loopw [64] (fun i wi => ∃ j : Nat, j ≤ L k ∧ i = .int .i64 j ∧ Below wo.heap.size wo wi ∧ wi.rowIs wo.heap.size 9 (L k) (fun x => .string (if x < j then codeOf (Z k x) else ⟨#[]⟩))) (fun i _ => L k - (intOf i).toNat)
              case atStart => exact ⟨0, Nat.zero_le _, rfl, (Below.refl _ _).alloc (Nat.le_refl _) _, (World.rowIs_made _ _ _ _).congr (fun x _ => by simp)⟩
              case round =>
                obtain ⟨j, hj, rfl, hbi, hri⟩ := hrel
                by_cases hjl : j < L k
                · obtain ⟨b', off', rfl, hc'⟩ := hrow.below hbi (Nat.le_refl _) j hjl
                  have hzz := hz k j hlt hjl
                  have hcell := hri.cell hjl
                  have hfr := hri.frozen j
                  go_wp2_with fail
                  refine (code_any (Z k j) hzz.1 hzz.2 _).mono ?_
                  rintro e w' ⟨rfl, hw'⟩
                  obtain rfl := hw'.symm
                  go_wp2
                  go_roundw
                  case rel =>
                    refine ⟨j + 1, by omega, by go_num, hbi.setCell (Nat.le_refl _) _, (hri.set j _).congr fun x _ => ?_⟩
                    by_cases e : x = j
                    · subst e; simp
                    · have e1 : x < j + 1 ↔ x < j := by omega
                      simp [e, e1]
                  case measure => simp [intOf]; omega
                · have hrw := hri.congr (g := fun x => .string (codeOf (Z k x))) (fun x hx => by rw [if_pos (by omega)])
                  have hrow27 := hB.row.of_block (hbi.block _ hB.row.lt)
                  have hcell := hrow27.cell hlt
                  rw [if_neg (Nat.lt_irrefl _)] at hcell
                  have hfr := hrow27.frozen k
                  have hlt27 := hrow27.lt
                  clear hrow27
                  go_wp2
                  go_roundw
                  case rel =>
                    have hst := hB.step hbi hri.lt hrw
                    rw [World.setCell_alloc_past _ _ _ _ hlt27] at hst
                    exact ⟨k + 1, _, _, by omega, by go_num, hst⟩
                  case measure => simp [intOf]; omega
            · obtain rfl : k = n := by omega
              have hE := hB.ents hLs
              have hmm := @run_makeMap Ybaf.prog
              obtain ⟨self, hself, hsk⟩ : ∃ self : Nat, sel % ((k : Int) + 1) = (self : Int) ∧ self ≤ k := by
                refine ⟨(sel % ((k : Int) + 1)).toNat, ?_, ?_⟩
                · have := Int.emod_nonneg sel (b := (k : Int) + 1) (by omega); omega
                · have := Int.emod_lt_of_pos sel (b := (k : Int) + 1) (by omega); omega
              go_upto_if 88 with fail
              go_cut [15, 16] from 26 (fun s v wx => s = .int .i64 self ∧ ∃ (ep : Nat) (ce : Value), v = .pointer (some ⟨ep, 0, none⟩) ∧ wx.heap[ep]? = some (entObj ce) ∧ Below wo.heap.size wo wx ∧ ∀ i, i < k → (ent i = ep ↔ i = self))
              case first =>
                by_cases hsn : self = k
                · have hsn' : ((self : Int) == (k : Int)) = true := by simp [hsn]
                  go_wp2_with fail
                  go_meet
                  case rel =>
                    refine ⟨by rw [hself], wo.heap.size, .slice none 0 0, rfl, by show (wo.heap.push _)[wo.heap.size]? = _; simp, (Below.refl _ _).alloc (Nat.le_refl _) _, fun i hi => ⟨fun e => ?_, fun e => ?_⟩⟩
                    · have := lt_of_blk (hE.blk i hi); omega
                    · omega
                · have hsn' : ((self : Int) == (k : Int)) = false := by simp; omega
                  have hsl : self < k := by omega
                  have hpt := hE.ptr self hsl
                  go_wp2_with fail
                  go_meet
                  case rel =>
                    exact ⟨by rw [hself], ent self, _, rfl, hE.blk self hsl, Below.refl _ _, fun i hi => ⟨fun e => hB.apart i self hi hsl e, fun e => by rw [e]⟩⟩
              case rest =>
                obtain ⟨rfl, ep, ce, rfl, hep, hbe, hid⟩ := hcut
                clear hself hs0 hs1
                have hE1 := hE.below hbe (Nat.le_refl _)
                go_wp2
                go_loopw [98] (fun i wr => ∃ j : Nat, j ≤ m ∧ i = .int .i64 j ∧ wr.ownsMap Ybaf.prog 9 hRead wc.heap.size j (hMap Rq j) ∧ Below wc.heap.size wc wr) (fun i _ => m - (intOf i).toNat)
                case atStart => exact ⟨0, Nat.zero_le _, rfl, World.ownsMap_made _ _ _ _, (Below.refl _ _).alloc (Nat.le_refl _) _⟩
                case round =>
                  obtain ⟨j, hj, rfl, hown, hbm⟩ := hrel
                  have hbw : Below w.heap.size w wr := (hB.below.trans (hbe.mono hB.below.size)).trans (hbm.mono (Nat.le_trans hB.below.size hbe.size))
                  by_cases hjm : j < m
                  · obtain ⟨b, off, rfl, hc⟩ := h2.below hbw (Nat.le_refl _) j hjm
                    have hrj := hr j hjm
                    dsimp only at hc
                    go_wp2_with fail
                    refine (code_any (Rq j) hrj.1 hrj.2 _).mono ?_
                    rintro e w' ⟨rfl, hw'⟩
                    obtain rfl := hw'.symm
                    have hkey : keyOf Ybaf.prog 9 (.string (codeOf (Rq j))) = some (.string (codeOf (Rq j)).data.toList) := WideMaps.keyOf_string_mk Ybaf.underlying9 (codeOf_size _)
                    go_wp2_with (first
                      | (at_mapUpdate; refine wpList_mapUpdate_own _ rfl _ _ _ 31 rfl 9 36 law9 Ybaf.underlying31 _ wc.heap.size j _ rfl hown (by unfold maxLen; omega) _ _ _ rfl rfl hkey (.lit (.bool true)) [] rfl ?_; intro w1 hown1 hgrow1; go_frame)
                      | go_in)
                    have hbm1 := hbm.grown hgrow1 hbm.size (fun j hj => by cases hj; exact Nat.le_refl _)
                    go_roundw
                    case rel => exact ⟨j + 1, by omega, by go_num, by rw [hMap_succ]; exact hown1, hbm1⟩
                    case measure => simp [intOf]; omega
                  · obtain rfl : j = m := by omega
                    have hE2 := hE1.below hbm (Nat.le_refl _)
                    have hk2 : wr.heap[ep]? = some (entObj ce) := by rw [hbm.block _ (lt_of_blk hep)]; exact hep
                    have hF2 : F.answers wr.tape := by rw [hbw.tape]; exact hF
                    go_wp2_with fail
                    refine (check_any F wr.heap.size w.heap.size k ep wc.heap.size j ent cb (fun i => codesOf (L i) (Z i)) (hMap Rq j) _ ?qF hnb ?qs ?qe ce ?qk ?qm).mono ?_
                    case qF => exact hF2
                    case qs => simp
                    case qe => exact hE2.below ((Below.refl _ _).alloc (Nat.le_refl _) _) (Nat.le_refl _)
                    case qk => rw [Below.heap_alloc _ _ _ (lt_of_blk hk2)]; exact hk2
                    case qm => exact hown.alloc _
                    rintro e w5 ⟨hres, hb5⟩
                    obtain ⟨ev, rfl, herr⟩ : ∃ ev, e = .returned ev ∧ ((ev = .nilIface ∧ ¬ Want k self j L Z Rq) ∨ ((∃ g, ev = .iface 64 (.pointer (some ⟨g, 0, none⟩))) ∧ Want k self j L Z Rq)) := by
                      rcases hres with ⟨rfl, h⟩ | ⟨⟨g, rfl⟩, h⟩
                      · exact ⟨_, rfl, .inl ⟨rfl, fun x => h ((clash_iff k self j ep ent L Z Rq hid).2 x)⟩⟩
                      · exact ⟨_, rfl, .inr ⟨⟨g, rfl⟩, (clash_iff k self j ep ent L Z Rq hid).1 h⟩⟩
                    have hb6 : Below wr.heap.size wr w5 := ((Below.refl _ _).alloc (Nat.le_refl _) _).trans (hb5.mono (by simp))
                    have hE5 := hE2.below hb6 (Nat.le_refl _)
                    have hbw5 : Below w.heap.size w w5 := hbw.trans (hb6.mono hbw.size)
                    have h25 := h2.below hbw5 (Nat.le_refl _)
                    clear hres hb5 hb6 hbw hF2 hk2 hE2 hE1 hown hbm hid hep hbe hE hB hmk hmm h0 h1 hz
                    go_wp2
                    go_loopw [22, 23] (fun v i wr => ∃ (q : Nat) (b : Bool), q ≤ k ∧ i = .int .i64 q ∧ v = .bool b ∧ (b = true ↔ Want q self j L Z Rq) ∧ Below w5.heap.size w5 wr) (fun _ i _ => k - (intOf i).toNat)
                    case atStart => exact ⟨0, false, Nat.zero_le _, rfl, rfl, by simp [Want], Below.refl _ _⟩
                    case round =>
                      obtain ⟨q, b, hq, rfl, rfl, hbq, hb7⟩ := hrel
                      obtain ⟨wp, hwp⟩ : ∃ wp, wp = wr := ⟨_, rfl⟩
                      subst hwp
                      by_cases hqk : q < k
                      · cases b
                        · by_cases hqs : q = self
                          · subst hqs
                            have hqs' : ((q : Int) == (q : Int)) = true := by simp
                            have hstep : false = true ↔ Want (q + 1) q j L Z Rq := by rw [want_succ, ← hbq]; simp
                            go_wp2
                            exact ⟨⟨q + 1, false, by omega, by go_num, rfl, hstep, hb7⟩, by simp [intOf]; omega⟩
                          · have hqs' : ((q : Int) == (self : Int)) = false := by simp; omega
                            have hno : ¬ Want q self j L Z Rq := fun h => by cases hbq.2 h
                            go_wp2
                            go_loopw [22, 127] (fun v i wr => ∃ p : Nat, p ≤ j ∧ i = .int .i64 p ∧ v = .bool false ∧ (∀ x, x < p → codeOf (Rq x) ∉ codesOf (L q) (Z q)) ∧ Below w5.heap.size w5 wr) (fun _ i _ => j - (intOf i).toNat)
                            case atStart => exact ⟨0, Nat.zero_le _, rfl, rfl, fun x hx => by omega, hb7⟩
                            case round =>
                              obtain ⟨p, hp, rfl, rfl, hpn, hb8⟩ := hrel
                              by_cases hpj : p < j
                              · have hE7 := hE5.below hb8 (Nat.le_refl _)
                                have hpt := hE7.ptr q hqk
                                have hcd := ent_codes (hE7.blk q hqk)
                                have hrp := hr p hpj
                                have hco := code_any (Rq p) hrp.1 hrp.2
                                have hct := fun nq => contains_any (cb q) (codesOf (L q) (Z q)) (codesOf (L q) (Z q)).length (codeOf (Rq p)) (wr.drewN nq) (hE7.short q hqk) ((hE7.strs q hqk))
                                obtain ⟨b, off, rfl, hc⟩ := h25.below hb8 (Nat.le_refl _) p hpj
                                dsimp only at hc
                                go_wp2
                                go_quiet ((first
                                  | (go_at_call 4; exact Calls.quiet_of_same (hco _))
                                  | (go_at_call 6; exact Calls.quiet_of_same (hct _))))
                                have hb9 : ∀ nq, Below w5.heap.size w5 (wr.drewN nq) := fun nq => ⟨hb8.os, hb8.tape, hb8.output, hb8.size, hb8.block⟩
                                by_cases hin : codeOf (Rq p) ∈ codesOf (L q) (Z q)
                                · have hstep : true = true ↔ Want (q + 1) self j L Z Rq := by
                                    rw [want_succ]; exact ⟨fun _ => .inr ⟨hqs, p, hpj, hin⟩, fun _ => rfl⟩
                                  rw [(hasS_iff _ _).2 hin]
                                  go_wp2
                                  exact ⟨⟨q + 1, true, by omega, by go_num, rfl, hstep, hb9 _⟩, by simp [intOf]; omega⟩
                                · have hf : hasS (codesOf (L q) (Z q)) (codeOf (Rq p)) = false := by
                                    cases h : hasS (codesOf (L q) (Z q)) (codeOf (Rq p))
                                    · rfl
                                    · exact absurd ((hasS_iff _ _).1 h) hin
                                  have hpn' : ∀ x, x < p + 1 → codeOf (Rq x) ∉ codesOf (L q) (Z q) := by
                                    intro x hx
                                    by_cases e : x = p
                                    · subst e; exact hin
                                    · exact hpn x (by omega)
                                  rw [hf]
                                  go_wp2
                                  exact ⟨⟨p + 1, by omega, by go_num, rfl, hpn', hb9 _⟩, by simp [intOf]; omega⟩
                              · have hstep : false = true ↔ Want (q + 1) self j L Z Rq := by
                                  rw [want_succ]
                                  refine ⟨fun h => (by cases h), ?_⟩
                                  rintro (h | ⟨_, x, hx, hxm⟩)
                                  · exact absurd h hno
                                  · exact absurd hxm (hpn x (by omega))
                                go_wp2
                                exact ⟨⟨q + 1, false, by omega, by go_num, rfl, hstep, hb8⟩, by simp [intOf]; omega⟩
                        · have hwant : Want k self j L Z Rq := by
                            obtain ⟨i, hi, r⟩ := hbq.1 rfl
                            exact ⟨i, by omega, r⟩
                          rcases herr with ⟨rfl, hw⟩ | ⟨⟨g, rfl⟩, hw⟩
                          · exact absurd hwant hw
                          · go_wp2
                            go_ret
                            exact ⟨rfl, hbw5.trans (hb7.mono hbw5.size)⟩
                      · obtain rfl : q = k := by omega
                        rcases herr with ⟨rfl, hw⟩ | ⟨⟨g, rfl⟩, hw⟩
                        · obtain rfl : b = false := by
                            cases b
                            · rfl
                            · exact absurd (hbq.1 rfl) hw
                          go_wp2
                          go_ret
                          exact ⟨rfl, hbw5.trans (hb7.mono hbw5.size)⟩
                        · obtain rfl := hbq.2 hw
                          go_wp2
                          go_ret
                          exact ⟨rfl, hbw5.trans (hb7.mono hbw5.size)⟩
    · go_enter Ybaf.func3, Ybaf.ntmps3
      go_wp2
      go_ret
      exact ⟨rfl, Below.refl _ _⟩
  · go_enter Ybaf.func3, Ybaf.ntmps3
    go_wp2
    go_ret
    exact ⟨rfl, Below.refl _ _⟩

end Go.Proofs.YbulkaajkFmt
