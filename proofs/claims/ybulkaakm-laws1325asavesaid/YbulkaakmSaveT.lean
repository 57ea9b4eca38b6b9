/-
  LawS1325ASave: THE WALK BEHIND saveKey (regions 25 to 40).
-/
import Derived.Test.YbulkaakmSaveK
namespace Go.Proofs.Ybulkaakm.Save
open Go.RowKit
set_option linter.unusedSimpArgs false
set_option linter.unusedVariables false

set_option maxRecDepth 100000 in
set_option maxHeartbeats 20000000 in
theorem tail15 (c : Code) (hc : Yba.f3.body.bind (dropS 15) = some c) (ka : Bool) (ind col line offs : Int) (af : Bool) (ta tb tc tk ch lo hd : Int) (q k fc kb sb : Nat) (fa : Option Addr) (Z : Nat → Int) (w wk wc : World) (x0 x2 x4 x5 x6 x7 x13 x14 x15 x16 x17 x18 x19 x20 x21 x22 x23 x24 x25 x26 x27 x28 x29 x30 x31 x32 x33 x34 x35 x36 x37 x38 x39 x40 x41 x42 x43 x44 x45 x46 x47 x48 x49 x50 x51 x52 x53 x54 x55 x56 x57 x58 x59 x60 x61 x62 x63 x64 x65 x66 x67 x68 x69 x70 x71 x72 x73 x74 x75 x76 x77 x78 x79 x80 x81 x82 x83 x84 x85 x86 x87 x88 x89 x90 x91 x92 x93 x94 x95 x96 x97 x98 x99 x100 x101 x102 x103 x104 x105 x106 x107 x108 x109 x110 x111 x112 x113 x114 x115 x116 x117 x118 x119 x120 x121 x122 x123 x124 x125 x126 x127 x128 x129 x130 x131 x132 x133 x134 x135 x136 x137 x138 x139 x140 x141 x142 x143 x144 x145 x146 x147 x148 x149 x150 x151 x152 x153 x154 x155 x156 x157 x158 x159 x160 x161 x162 x163 x164 x165 x166 x167 x168 x169 x170 x171 x172 x173 x174 x175 x176 x177 x178 x179 x180 x181 x182 x183 x184 x185 x186 x187 x188 x189 x190 x191 x192 x193 x194 x195 x196 x197 x198 x199 x200 x201 : Value) (hnb : k ≤ 1024)
    (hF : Holds w fa k (fun j => .int .u8 (Z j))) (hz : ∀ j, j < k → 0 ≤ Z j ∧ Z j ≤ 255)
    (hA : Aft wc wk.heap.size sb kb k ka offs line col ta tb tc (if ka then newLow lo k else lo) (lastKey ka ind col af (wrap64 (wrap64 (tk + q) - hd)) ch offs line ta tb tc k (Z (k - 1) % 2 == 1)))
    (j0 : wc.cell? ⟨w.heap.size, 0, none⟩ = some (.bool ka)) (j1 : wc.cell? ⟨w.heap.size, 1, none⟩ = some (.int .i64 ind)) (j2 : wc.cell? ⟨w.heap.size, 2, none⟩ = some (.int .i64 col)) (j5 : wc.cell? ⟨w.heap.size, 5, none⟩ = some (.bool af)) (j9 : wc.cell? ⟨w.heap.size, 9, none⟩ = some (.int .i64 tk))
    (j12 : wc.cell? ⟨w.heap.size, 12, none⟩ = some (.int .i64 ch)) (j13 : wc.cell? ⟨w.heap.size, 13, none⟩ = some (.int .i64 lo)) (j14 : wc.cell? ⟨w.heap.size, 14, none⟩ = some (.slice fa k fc)) (hbw : Below w.heap.size w wc) :
    c.wp Yba.prog (Fin w) { tmps := #[x0, .pointer (some ⟨w.heap.size, 0, none⟩), x2, .int .i64 k, x4, x5, x6, x7, .int .i64 q, .int .i64 hd, .pointer (some ⟨wk.heap.size, 0, none⟩), .pointer (some ⟨wk.heap.size + 1, 0, none⟩), .pointer (some ⟨sb, 0, none⟩), x13, x14, x15, x16, x17, x18, x19, x20, x21, x22, x23, x24, x25, x26, x27, x28, x29, x30, x31, x32, x33, x34, x35, x36, x37, x38, x39, x40, x41, x42, x43, x44, x45, x46, x47, x48, x49, x50, x51, x52, x53, x54, x55, x56, x57, x58, x59, x60, x61, x62, x63, x64, x65, x66, x67, x68, x69, x70, x71, x72, x73, x74, x75, x76, x77, x78, x79, x80, x81, x82, x83, x84, x85, x86, x87, x88, x89, x90, x91, x92, x93, x94, x95, x96, x97, x98, x99, x100, x101, x102, x103, x104, x105, x106, x107, x108, x109, x110, x111, x112, x113, x114, x115, x116, x117, x118, x119, x120, x121, x122, x123, x124, x125, x126, x127, x128, x129, x130, x131, x132, x133, x134, x135, x136, x137, x138, x139, x140, x141, x142, x143, x144, x145, x146, x147, x148, x149, x150, x151, x152, x153, x154, x155, x156, x157, x158, x159, x160, x161, x162, x163, x164, x165, x166, x167, x168, x169, x170, x171, x172, x173, x174, x175, x176, x177, x178, x179, x180, x181, x182, x183, x184, x185, x186, x187, x188, x189, x190, x191, x192, x193, x194, x195, x196, x197, x198, x199, x200, x201], defers := [] } wc := by
  obtain rfl : c = _ := Option.some.inj (hc.symm.trans rfl)
  clear hc
  obtain ⟨wn, hwn⟩ : ∃ wn, wn = wc := ⟨_, rfl⟩
  subst hwn
  go_upto_region 26 with fail
  go_cut [119] from 16 (fun v wx => v = .bool (ka && decide ((k : Int) < lo)) ∧ wx = wn)
  case first =>
    cases ka
    · go_wp2_with fail
      go_meet
      case rel => exact ⟨rfl, rfl⟩
    · go_wp2_with fail
      go_meet
      case rel => exact ⟨by simp, rfl⟩
  case rest =>
    obtain ⟨rfl, rfl⟩ := hcut
    go_upto_if 119 with fail
    go_cut [13] from 16 (fun v wx => v = .int .i64 (if ka then newLow lo k else lo) ∧ wx = wc)
    case first =>
      by_cases hg : ka = true ∧ (k : Int) < lo
      · have hg' : (ka && decide ((k : Int) < lo)) = true := by simp [hg.1, hg.2]
        have hv : (if ka then newLow lo k else lo) = (k : Int) := by simp [hg.1, newLow, hg.2]
        rw [hg']
        have Hv := (show Hid _ from hv)
        clear hg hv hg'
        go_wp2_with fail
        go_meet
        case rel => exact ⟨by rw [Hv.out], rfl⟩
      · have hg' : (ka && decide ((k : Int) < lo)) = false := by
          cases ka
          · rfl
          · simp at hg; simp; exact hg
        have hv : (if ka then newLow lo k else lo) = lo := by
          cases ka
          · rfl
          · simp at hg; simp [newLow]; intro h; omega
        rw [hg']
        have Hv := (show Hid _ from hv)
        clear hg hv hg'
        go_wp2_with fail
        go_meet
        case rel => exact ⟨by rw [Hv.out], rfl⟩
    case rest =>
      obtain ⟨rfl, rfl⟩ := hcut
      obtain ⟨wn, hwn⟩ : ∃ wn, wn = wc := ⟨_, rfl⟩
      subst hwn
      obtain ⟨low, hlow⟩ : ∃ low, low = (if ka then newLow lo k else lo) := ⟨_, rfl⟩
      rw [← hlow] at hA ⊢
      clear hlow
      have c30 := hA.c30
      have c31 := hA.c31
      have c32 := hA.c32
      go_upto_region 30 with fail
      go_quiet (fail)
      go_wp2
      go_loopw [14] (fun i wr => ∃ j : Nat, j ≤ k ∧ i = .int .i64 j ∧ Below wn.heap.size wn wr) (fun i _ => k - (intOf i).toNat)
      case atStart => exact ⟨0, Nat.zero_le _, rfl, ⟨rfl, rfl, rfl, Nat.le_refl _, fun _ _ => rfl⟩⟩
      case round =>
        clear c30 c31 c32
        obtain ⟨j, hj, rfl, hb3⟩ := hrel
        have hA3 := hA.below hb3 (Nat.le_refl _)
        by_cases hlt4 : j < k
        · obtain ⟨k0, k1, k2, k3, k4, k5, k6, k7, k8, k9, k10, k11, k12⟩ := range13 (hA3.old j hlt4)
          have c30 := hA3.c30
          have hkl5 : kb < wr.heap.size := lt_of_cell k0
          have hsl5 : sb < wr.heap.size := lt_of_cell c30
          clear hA3
          have hji0 : (0 : Int) ≤ (j : Int) := by omega
          have hji1 : (j : Int) < (k : Int) + 1 := by omega
          have hg31 := eqg31
          have hneq := neq_self false false false true false j (-(j : Int)) 0 0 0 0 0 0
          obtain ⟨wq, hwq⟩ : ∃ wq, wq = wr := ⟨_, rfl⟩
          subst hwq
          go_upto_region 35 with fail
          go_cut [14, 158] from 144 to 158 (fun i v wx => i = .int .i64 j ∧ v = .bool false ∧ Below wq.heap.size wq wx)
          case first =>
            go_region_held3 (fun w' => w'.cell? ⟨sb, 30, none⟩ = some (.slice (some ⟨kb, 0, none⟩) (k + 1) (k + 1)) ∧ w'.cell? ⟨kb, j * 13, none⟩ = some (.bool false) ∧ w'.cell? ⟨kb, j * 13 + 1, none⟩ = some (.bool false) ∧ w'.cell? ⟨kb, j * 13 + 2, none⟩ = some (.bool false) ∧ w'.cell? ⟨kb, j * 13 + 3, none⟩ = some (.bool true) ∧ w'.cell? ⟨kb, j * 13 + 4, none⟩ = some (.bool false) ∧
              w'.cell? ⟨kb, j * 13 + 5, none⟩ = some (.int .i64 j) ∧ w'.cell? ⟨kb, j * 13 + 6, none⟩ = some (.int .i64 (-(j : Int))) ∧ w'.cell? ⟨kb, j * 13 + 7, none⟩ = some (.int .i64 0) ∧ w'.cell? ⟨kb, j * 13 + 8, none⟩ = some (.int .i64 0) ∧ w'.cell? ⟨kb, j * 13 + 9, none⟩ = some (.int .i64 0) ∧ w'.cell? ⟨kb, j * 13 + 10, none⟩ = some (.int .i64 0) ∧ w'.cell? ⟨kb, j * 13 + 11, none⟩ = some (.int .i64 0) ∧ w'.cell? ⟨kb, j * 13 + 12, none⟩ = some (.int .i64 0)) (go_keep)
              (first | (go_at_call 6; refine (prev_any' j (by omega) _).mono ?_; rintro e w' ⟨rfl, rfl⟩))
            all_goals go_wp2_with fail
            go_meet
            case rel => exact ⟨rfl, rfl, ((Below.refl _ _).drew).alloc (Nat.le_refl _) _⟩
          case rest =>
            obtain ⟨rfl, rfl, hb4⟩ := hcut
            clear hg31 hneq k0 k1 k2 k3 k4 k5 k6 k7 k8 k9 k10 k11 k12 c30
            go_wp2
            go_roundw
            case rel => exact ⟨j + 1, by omega, by go_num, hb3.trans (hb4.mono hb3.size)⟩
            case measure => simp [intOf]; omega
        · obtain rfl : j = k := by omega
          have hbw3 : Below w.heap.size w wr := hbw.trans (hb3.mono hbw.size)
          have i0 := cell_below j0 hb3 (Nat.le_refl _)
          have i1 := cell_below j1 hb3 (Nat.le_refl _)
          have i2 := cell_below j2 hb3 (Nat.le_refl _)
          have i5 := cell_below j5 hb3 (Nat.le_refl _)
          have i9 := cell_below j9 hb3 (Nat.le_refl _)
          have i12 := cell_below j12 hb3 (Nat.le_refl _)
          have i14 := cell_below j14 hb3 (Nat.le_refl _)
          clear j0 j1 j2 j5 j9 j12 j13 j14 hA hb3 hbw
          have hkl6 : kb < wr.heap.size := lt_of_cell (hA3.last 0 (.bool ka) (by unfold lastKey; cases ka <;> rfl))
          have hsl6 : sb < wr.heap.size := lt_of_cell hA3.c30
          have hBl6 : w.heap.size < wr.heap.size := lt_of_cell i0
          have hBl7 : w.heap.size < wr.heap.size + 1 := by omega
          have hml6 : wk.heap.size < wr.heap.size := lt_of_cell hA3.m0
          have hml7 : wk.heap.size + 1 < wr.heap.size := lt_of_cell hA3.t0
          obtain ⟨wz, hwz⟩ : ∃ wz, wz = wr := ⟨_, rfl⟩
          subst hwz
          go_wp2_with fail
          refine (prev_any' j (by omega) _).mono ?_
          rintro e w' ⟨rfl, rfl⟩
          go_upto_if 162 with fail
          go_cut [15] from 16 (fun p wx => p = .pointer (some ⟨wz.heap.size + 1, 0, none⟩) ∧ Below wz.heap.size wz wx ∧ wz.heap.size + 1 < wx.heap.size ∧ wx.rangeAt (wz.heap.size + 1) 0 (lastKey ka ind col af (wrap64 (wrap64 (tk + q) - hd)) ch offs line ta tb tc j (Z (j - 1) % 2 == 1)))
          case first =>
            cases ka
            · go_wp2_with fail
              go_meet
              case rel =>
                refine ⟨rfl, ((Below.refl _ _).alloc (Nat.le_refl _) _).alloc (by simp) _, by simp, ?_⟩
                intro i v hv
                have hsz : wz.heap.size + 1 = (wz.alloc (Obj.cells (key13 false false false true false j (-(j : Int)) 0 0 0 0 0 0) 31)).heap.size := by simp
                rw [hsz, World.cell?_alloc_new]
                simpa [lastKey, prevKey] using hv
            · go_upto_region 39 with fail
              obtain ⟨wy, hwy⟩ : ∃ wy, wy = (wz.alloc (Obj.cells (key13 false false false true false j (-(j : Int)) 0 0 0 0 0 0) 31)).alloc (.cells (key13 false false false true false j (-(j : Int)) 0 0 0 0 0 0) 31) := ⟨_, rfl⟩
              have hby : Below wz.heap.size wz wy := by rw [hwy]; exact ((Below.refl _ _).alloc (Nat.le_refl _) _).alloc (by simp) _
              have hszy : wy.heap.size = wz.heap.size + 2 := by rw [hwy]; simp
              have hly : ∀ o, o < 13 → ∃ v, wy.cell? ⟨wz.heap.size + 1, o, none⟩ = some v := by
                intro o ho
                have hsz : wz.heap.size + 1 = (wz.alloc (Obj.cells (key13 false false false true false j (-(j : Int)) 0 0 0 0 0 0) 31)).heap.size := by simp
                rw [hwy, hsz, World.cell?_alloc_new]
                exact ⟨_, Array.getElem?_eq_getElem (by simpa using ho)⟩
              have lfz : ∀ o, wy.frozen? ⟨wz.heap.size + 1, o, none⟩ = false := by
                intro o
                have hsz : wz.heap.size + 1 = (wz.alloc (Obj.cells (key13 false false false true false j (-(j : Int)) 0 0 0 0 0 0) 31)).heap.size := by simp
                rw [hwy, hsz]
                exact World.frozen?_alloc_new _ _ _ _
              rw [← hwy]
              clear hwy
              have Hly := (show Hid _ from hly)
              clear hly
              have y1 := cell_below i1 hby (Nat.le_refl _)
              have y2 := cell_below i2 hby (Nat.le_refl _)
              have y5 := cell_below i5 hby (Nat.le_refl _)
              have y9 := cell_below i9 hby (Nat.le_refl _)
              have y12 := cell_below i12 hby (Nat.le_refl _)
              have y14 := cell_below i14 hby (Nat.le_refl _)
              have m0 := cell_below hA3.m0 hby (Nat.le_refl _)
              have m1 := cell_below hA3.m1 hby (Nat.le_refl _)
              have m2 := cell_below hA3.m2 hby (Nat.le_refl _)
              have t0 := cell_below hA3.t0 hby (Nat.le_refl _)
              have t1 := cell_below hA3.t1 hby (Nat.le_refl _)
              have t2 := cell_below hA3.t2 hby (Nat.le_refl _)
              have d1 : w.heap.size ≠ wz.heap.size + 1 := by omega
              have d2 : wk.heap.size ≠ wz.heap.size + 1 := by omega
              have d3 : wk.heap.size + 1 ≠ wz.heap.size + 1 := by omega
              have d4 : wk.heap.size ≠ wz.heap.size := by omega
              have hly2 : ∀ o, o < 13 → ∃ v, wy.cell? ⟨wz.heap.size + 1, o, none⟩ = some v := Hly.out
              by_cases hj0 : 0 < j
              · obtain ⟨fb, fo, rfl, hfc⟩ := (hF.below hbw3 (Nat.le_refl _)) (j - 1) (by omega)
                have hfy := cell_below hfc hby (Nat.le_refl _)
                have hfl6 : fb < wz.heap.size := lt_of_cell hfc
                have d5 : fb ≠ wz.heap.size + 1 := by omega
                have hzj := hz (j - 1) (by omega)
                dsimp only at hfy
                refine reg39_pos _ (by kernel_rfl) _ w.heap.size wk.heap.size (wz.heap.size + 1) q hd ind col line offs ta tb tc tk ch af _ _ _ _ _ _ _ _ _ _ _ _ _ _ _ _ _ _ _ _ _ _ _ _ _ _ _ _ _ _ _ _ _ _ _ _ _ _ _ _ _ _ _ _ _ _ _ _ _ _ _ _ _ _ _ _ _ _ _ _ _ _ _ _ _ _ _ _ _ _ _ _ _ _ _ _ _ _ _ _ _ _ _ _ _ _ _ _ _ _ _ _ _ _ _ _ _ _ _ _ _ _ _ _ _ _ _ _ _ _ _ _ _ _ _ _ _ _ _ _ _ _ _ _ _ _ _ _ _ _ _ _ _ _ _ _ _ _ _ _ _ _ _ _ _ _ _ _ _ _ _ _ _ _ _ _ _ _ _ _ _ _ _ _ _ _ _ _ _ _ _ _ _ _ _ _ _ _ _ _ _ _ _ _ _ _ _ _ _ _ _ _ _ _ _ _ wy y1 y2 y5 y9 y12 m0 m1 m2 t0 t1 t2 hly2 lfz d1 d2 d3 d1.symm d2.symm d3.symm j fb fo fc (Z (j - 1)) y14 hfy d5 d5.symm (by omega) (by omega) (by omega) (by omega) (by unfold wrap64; omega) (IntWalk.i64_in _ (by omega)) hzj.1 hj0 (by omega) (by omega) ?_
                intro z163 z164 z165 z166 z167 z168 z169 z170 z171 z172 z173 z174 z175 z176 z177 z178 z179 z180 z181 z182 z183 z184 z185 z186 z187 z188 z189 z190 z191 z192 wf hbf hszf hrf
                go_wp2_with fail
                go_meet
                case rel =>
                  refine ⟨rfl, hby.trans (hbf.mono (by omega)), by omega, fun i v hv => hrf i v ?_⟩
                  rw [← hv]
                  simp [lastKey, newKey, IntWalk.i64_left, hj0, Int.tmod_eq_emod_of_nonneg hzj.1]
              · obtain rfl : j = 0 := by omega
                refine reg39_zero _ (by kernel_rfl) _ w.heap.size wk.heap.size (wz.heap.size + 1) q hd ind col line offs ta tb tc tk ch af _ _ _ _ _ _ _ _ _ _ _ _ _ _ _ _ _ _ _ _ _ _ _ _ _ _ _ _ _ _ _ _ _ _ _ _ _ _ _ _ _ _ _ _ _ _ _ _ _ _ _ _ _ _ _ _ _ _ _ _ _ _ _ _ _ _ _ _ _ _ _ _ _ _ _ _ _ _ _ _ _ _ _ _ _ _ _ _ _ _ _ _ _ _ _ _ _ _ _ _ _ _ _ _ _ _ _ _ _ _ _ _ _ _ _ _ _ _ _ _ _ _ _ _ _ _ _ _ _ _ _ _ _ _ _ _ _ _ _ _ _ _ _ _ _ _ _ _ _ _ _ _ _ _ _ _ _ _ _ _ _ _ _ _ _ _ _ _ _ _ _ _ _ _ _ _ _ _ _ _ _ _ _ _ _ _ _ _ _ _ _ _ _ _ _ _ wy y1 y2 y5 y9 y12 m0 m1 m2 t0 t1 t2 hly2 lfz d1 d2 d3 d1.symm d2.symm d3.symm ?_
                intro z163 z164 z165 z166 z167 z168 z169 z170 z171 z172 z173 z174 z175 z176 z177 z178 z179 z180 z181 z182 z183 z184 z185 z186 z187 z188 z189 z190 z191 z192 wf hbf hszf hrf
                go_wp2_with fail
                go_meet
                case rel =>
                  refine ⟨rfl, hby.trans (hbf.mono (by omega)), by omega, fun i v hv => hrf i v ?_⟩
                  rw [← hv]
                  simp [lastKey, newKey, IntWalk.i64_left]
          case rest =>
            obtain ⟨rfl, hb7, hsz7, hL⟩ := hcut
            have hA7 := hA3.below hb7 (Nat.le_refl _)
            have hbw7 : Below w.heap.size w wc := hbw3.trans (hb7.mono hbw3.size)
            have hK7 := hA7.last
            have c30 := hA7.c30
            obtain ⟨b0, b1, b2, b3, b4, x0, x1, x2, x3, x4, x5, x6, x7, hke⟩ : ∃ (b0 b1 b2 b3 b4 : Bool) (x0 x1 x2 x3 x4 x5 x6 x7 : Int), lastKey ka ind col af (wrap64 (wrap64 (tk + q) - hd)) ch offs line ta tb tc j (Z (j - 1) % 2 == 1) = [.bool b0, .bool b1, .bool b2, .bool b3, .bool b4, .int .i64 x0, .int .i64 x1, .int .i64 x2, .int .i64 x3, .int .i64 x4, .int .i64 x5, .int .i64 x6, .int .i64 x7] := by
              cases ka
              · exact ⟨_, _, _, _, _, _, _, _, _, _, _, _, _, rfl⟩
              · exact ⟨_, _, _, _, _, _, _, _, _, _, _, _, _, rfl⟩
            rw [hke] at hL hK7
            obtain ⟨k0, k1, k2, k3, k4, k5, k6, k7, k8, k9, k10, k11, k12⟩ := range13 hK7
            obtain ⟨l0, l1, l2, l3, l4, l5, l6, l7, l8, l9, l10, l11, l12⟩ := range13 hL
            simp only [Nat.zero_add] at l1 l2 l3 l4 l5 l6 l7 l8 l9 l10 l11 l12
            clear hA3 hA7 hL hK7 hke i0 i1 i2 i5 i9 i12 i14 hb7 hbw3
            have hji0 : (0 : Int) ≤ (j : Int) := by omega
            have hji1 : (j : Int) < (j : Int) + 1 := by omega
            have hg31 := eqg31
            have heq := eql_self b0 b1 b2 b3 b4 x0 x1 x2 x3 x4 x5 x6 x7
            go_upto_region 40 with fail
            go_quiet (fail)
            go_wp2
            go_ret
            exact ⟨rfl, ⟨hbw7.os, hbw7.tape, hbw7.output, hbw7.size, hbw7.block⟩⟩

end Go.Proofs.Ybulkaakm.Save
