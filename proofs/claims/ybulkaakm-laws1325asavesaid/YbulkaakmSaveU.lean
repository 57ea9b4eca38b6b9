/-
  LawS1325ASave: THE WALK FROM THE HEAD TO saveKey (regions 18 to 24).
-/
import Derived.Test.YbulkaakmSaveT
namespace Go.Proofs.Ybulkaakm.Save
open Go.RowKit
set_option linter.unusedSimpArgs false
set_option linter.unusedVariables false

set_option maxRecDepth 100000 in
set_option maxHeartbeats 20000000 in
theorem tail8 (c : Code) (hc : Yba.f3.body.bind (dropS 8) = some c) (ka : Bool) (ind col line offs : Int) (af : Bool) (ta tb tc tk hd0 ch lo : Int) (q k fc kb : Nat) (fa : Option Addr) (Z : Nat → Int) (w wk : World) (x0 x2 x5 x7 x9 x10 x11 x12 x13 x14 x15 x16 x17 x18 x19 x20 x21 x22 x23 x24 x25 x26 x27 x28 x29 x30 x31 x32 x33 x34 x35 x36 x37 x38 x39 x40 x41 x42 x43 x44 x45 x46 x47 x48 x49 x50 x51 x52 x53 x54 x55 x56 x57 x58 x59 x60 x61 x62 x63 x64 x65 x66 x67 x68 x69 x70 x71 x72 x73 x74 x75 x76 x77 x78 x79 x80 x81 x82 x83 x84 x85 x86 x87 x88 x89 x90 x91 x92 x93 x94 x95 x96 x97 x98 x99 x100 x101 x102 x103 x104 x105 x106 x107 x108 x109 x110 x111 x112 x113 x114 x115 x116 x117 x118 x119 x120 x121 x122 x123 x124 x125 x126 x127 x128 x129 x130 x131 x132 x133 x134 x135 x136 x137 x138 x139 x140 x141 x142 x143 x144 x145 x146 x147 x148 x149 x150 x151 x152 x153 x154 x155 x156 x157 x158 x159 x160 x161 x162 x163 x164 x165 x166 x167 x168 x169 x170 x171 x172 x173 x174 x175 x176 x177 x178 x179 x180 x181 x182 x183 x184 x185 x186 x187 x188 x189 x190 x191 x192 x193 x194 x195 x196 x197 x198 x199 x200 x201 : Value) (hnb : k ≤ 1024) (q1 : q ≤ 255) (e0 : 0 ≤ hd0) (e1 : hd0 ≤ 255)
    (hF : Holds w fa k (fun j => .int .u8 (Z j))) (hz : ∀ j, j < k → 0 ≤ Z j ∧ Z j ≤ 255)
    (hBf : w.heap.size + 1 < kb) (hkl : kb < wk.heap.size) (hfl : wk.rowIs (w.heap.size + 1) 26 k (fun j => .int .u8 (if j < k then fkind (Z j) else 0)))
    (hK : Keys wk kb k (k + 1)) (hbe : Below (w.heap.size + 1) (w.alloc (.cells (inC ka ind col line offs af ta tb tc tk q hd0 ch lo (.slice fa k fc)) 24)) wk)
    (i0 : wk.cell? ⟨w.heap.size, 0, none⟩ = some (.bool ka)) (i1 : wk.cell? ⟨w.heap.size, 1, none⟩ = some (.int .i64 ind)) (i2 : wk.cell? ⟨w.heap.size, 2, none⟩ = some (.int .i64 col)) (i3 : wk.cell? ⟨w.heap.size, 3, none⟩ = some (.int .i64 line)) (i4 : wk.cell? ⟨w.heap.size, 4, none⟩ = some (.int .i64 offs)) (i5 : wk.cell? ⟨w.heap.size, 5, none⟩ = some (.bool af)) (i6 : wk.cell? ⟨w.heap.size, 6, none⟩ = some (.int .i64 ta)) (i7 : wk.cell? ⟨w.heap.size, 7, none⟩ = some (.int .i64 tb)) (i8 : wk.cell? ⟨w.heap.size, 8, none⟩ = some (.int .i64 tc)) (i9 : wk.cell? ⟨w.heap.size, 9, none⟩ = some (.int .i64 tk)) (i10 : wk.cell? ⟨w.heap.size, 10, none⟩ = some (.int .u8 (q : Int))) (i11 : wk.cell? ⟨w.heap.size, 11, none⟩ = some (.int .u8 hd0)) (i12 : wk.cell? ⟨w.heap.size, 12, none⟩ = some (.int .i64 ch)) (i13 : wk.cell? ⟨w.heap.size, 13, none⟩ = some (.int .i64 lo)) (i14 : wk.cell? ⟨w.heap.size, 14, none⟩ = some (.slice fa k fc)) :
    c.wp Yba.prog (Fin w) { tmps := #[x0, .pointer (some ⟨w.heap.size, 0, none⟩), x2, .int .i64 k, .slice (some ⟨w.heap.size + 1, 0, none⟩) k k, x5, .slice (some ⟨kb, 0, none⟩) (k + 1) (k + 1), x7, .int .i64 q, x9, x10, x11, x12, x13, x14, x15, x16, x17, x18, x19, x20, x21, x22, x23, x24, x25, x26, x27, x28, x29, x30, x31, x32, x33, x34, x35, x36, x37, x38, x39, x40, x41, x42, x43, x44, x45, x46, x47, x48, x49, x50, x51, x52, x53, x54, x55, x56, x57, x58, x59, x60, x61, x62, x63, x64, x65, x66, x67, x68, x69, x70, x71, x72, x73, x74, x75, x76, x77, x78, x79, x80, x81, x82, x83, x84, x85, x86, x87, x88, x89, x90, x91, x92, x93, x94, x95, x96, x97, x98, x99, x100, x101, x102, x103, x104, x105, x106, x107, x108, x109, x110, x111, x112, x113, x114, x115, x116, x117, x118, x119, x120, x121, x122, x123, x124, x125, x126, x127, x128, x129, x130, x131, x132, x133, x134, x135, x136, x137, x138, x139, x140, x141, x142, x143, x144, x145, x146, x147, x148, x149, x150, x151, x152, x153, x154, x155, x156, x157, x158, x159, x160, x161, x162, x163, x164, x165, x166, x167, x168, x169, x170, x171, x172, x173, x174, x175, x176, x177, x178, x179, x180, x181, x182, x183, x184, x185, x186, x187, x188, x189, x190, x191, x192, x193, x194, x195, x196, x197, x198, x199, x200, x201], defers := [] } wk := by
  obtain rfl : c = _ := Option.some.inj (hc.symm.trans rfl)
  clear hc
  have hBk : w.heap.size < wk.heap.size := by omega
  have hBk1 : w.heap.size < wk.heap.size + 1 := by omega
  have hBk2 : w.heap.size < wk.heap.size + 1 + 1 := by omega
  have hBk3 : w.heap.size < wk.heap.size + 1 + 1 + 1 := by omega
  go_upto_region 21 with fail
  go_cut [8, 9, 10, 11, 12] from 16 (fun sq sh sm st sp wx => sq = .int .i64 q ∧ sm = .pointer (some ⟨wk.heap.size, 0, none⟩) ∧ st = .pointer (some ⟨wk.heap.size + 1, 0, none⟩) ∧ ∃ (hd : Int) (sb : Nat) (qa : Option Addr), sh = .int .i64 hd ∧ sp = .pointer (some ⟨sb, 0, none⟩) ∧
      Below (wk.heap.size + 2) ((wk.alloc (.cells #[.int .i64 offs, .int .i64 line, .int .i64 col] 29)).alloc (.cells #[.int .i64 ta, .int .i64 tb, .int .i64 tc] 29)) wx ∧ wk.heap.size + 2 ≤ sb ∧
      Sc wx sb ka ind af ta tb tc tk qa q hd (.slice (some ⟨w.heap.size + 1, 0, none⟩) k k) (.slice (some ⟨kb, 0, none⟩) (k + 1) (k + 1)) lo)
  case first =>
    obtain ⟨W2, hW2⟩ : ∃ W2, W2 = ((wk.alloc (.cells #[.int .i64 offs, .int .i64 line, .int .i64 col] 29)).alloc (.cells #[.int .i64 ta, .int .i64 tb, .int .i64 tc] 29)) := ⟨_, rfl⟩
    have hb0 : Below wk.heap.size wk W2 := by rw [hW2]; exact ((Below.refl _ _).alloc (Nat.le_refl _) _).alloc (by simp) _
    have hs2 : W2.heap.size = wk.heap.size + 2 := by rw [hW2]; simp
    have t0 : W2.cell? ⟨wk.heap.size + 1, 0, none⟩ = some (.int .i64 ta) := by rw [hW2]; simp
    have t1 : W2.cell? ⟨wk.heap.size + 1, 1, none⟩ = some (.int .i64 tb) := by rw [hW2]; simp
    have t2 : W2.cell? ⟨wk.heap.size + 1, 2, none⟩ = some (.int .i64 tc) := by rw [hW2]; simp
    rw [← hW2]
    have HW2 := (show Hid _ from hW2)
    clear hW2
    refine reg21 _ (by kernel_rfl) _ w.heap.size (wk.heap.size + 1) q _ ind ta tb tc tk lo ka af (w.heap.size + 1) kb k _ _ _ _ _ _ _ _ _ _ _ _ _ _ _ _ _ _ _ _ _ _ _ _ _ _ _ _ _ _ _ _ _ _ _ _ _ _ _ _ _ _ _ _ _ _ _ _ _ _ _ _ _ _ _ _ _ _ _ _ _ _ _ _ _ _ _ _ _ _ _ _ _ _ _ _ _ _ _ _ _ _ _ _ _ _ _ _ _ _ _ _ _ _ _ _ _ _ _ _ _ _ _ _ _ _ _ _ _ _ _ _ _ _ _ _ _ _ _ _ _ _ _ _ _ _ _ _ _ _ _ _ _ _ _ _ _ _ _ _ _ _ _ _ _ _ _ _ _ _ _ _ _ _ _ _ _ _ _ _ _ _ _ _ _ _ _ _ _ _ _ _ _ _ _ _ _ _ _ _ _ _ _ _ _ _ _ _ _ _ _ _ _ _ _ _ _ W2 q1 (cell_below i0 hb0 (Nat.le_refl _)) (cell_below i1 hb0 (Nat.le_refl _)) (cell_below i5 hb0 (Nat.le_refl _)) (cell_below i9 hb0 (Nat.le_refl _)) (cell_below i13 hb0 (Nat.le_refl _)) t0 t1 t2 ?_
    intro z80 z81 z82 z83 z84 z85 z86 z87 z88 z89 z90 z91 z92 z93 z94 z95 z96 z97 wf sb qa hbf hsbf hSf
    rw [hs2] at hbf hsbf
    go_wp2_with fail
    go_meet
    case rel =>
      rw [HW2.out] at hbf
      exact ⟨rfl, rfl, rfl, _, sb, qa, rfl, rfl, hbf, hsbf, hSf⟩
  case rest =>
    obtain ⟨rfl, rfl, rfl, hd, sb, qa, rfl, rfl, hbs, hsb, hS⟩ := hcut
    have hbk : Below wk.heap.size wk wc := (((Below.refl _ _).alloc (Nat.le_refl _) _).alloc (by simp) _).trans (hbs.mono (by omega))
    have m0 : wc.cell? ⟨wk.heap.size, 0, none⟩ = some (.int .i64 offs) := by rw [hbs.cell (by simp)]; simp
    have m1 : wc.cell? ⟨wk.heap.size, 1, none⟩ = some (.int .i64 line) := by rw [hbs.cell (by simp)]; simp
    have m2 : wc.cell? ⟨wk.heap.size, 2, none⟩ = some (.int .i64 col) := by rw [hbs.cell (by simp)]; simp
    have t0 : wc.cell? ⟨wk.heap.size + 1, 0, none⟩ = some (.int .i64 ta) := by rw [hbs.cell (by simp)]; simp
    have t1 : wc.cell? ⟨wk.heap.size + 1, 1, none⟩ = some (.int .i64 tb) := by rw [hbs.cell (by simp)]; simp
    have t2 : wc.cell? ⟨wk.heap.size + 1, 2, none⟩ = some (.int .i64 tc) := by rw [hbs.cell (by simp)]; simp
    have j0 := cell_below i0 hbk (Nat.le_refl _)
    have j1 := cell_below i1 hbk (Nat.le_refl _)
    have j2 := cell_below i2 hbk (Nat.le_refl _)
    have j5 := cell_below i5 hbk (Nat.le_refl _)
    have j9 := cell_below i9 hbk (Nat.le_refl _)
    have j12 := cell_below i12 hbk (Nat.le_refl _)
    have j13 := cell_below i13 hbk (Nat.le_refl _)
    have j14 := cell_below i14 hbk (Nat.le_refl _)
    have hK1 := hK.below hbk hkl
    have hfl1 := hfl.of_block (hbk.block _ (by omega))
    have hne1 : sb ≠ wk.heap.size := by omega
    have hne2 : sb ≠ wk.heap.size + 1 := by omega
    have hne3 : sb ≠ kb := by omega
    have hne4 : sb ≠ w.heap.size := by omega
    obtain ⟨s8, k8⟩ := hS.c8
    obtain ⟨s9, k9⟩ := hS.c9
    obtain ⟨s10, k10⟩ := hS.c10
    obtain ⟨s11, k11⟩ := hS.c11
    have sfz := hS.frz
    obtain ⟨wm, hwm⟩ : ∃ wm, wm = (((wc.setCell ⟨sb, 8, none⟩ (.int .i64 offs)).setCell ⟨sb, 9, none⟩ (.int .i64 line)).setCell ⟨sb, 10, none⟩ (.int .i64 col)).setCell ⟨sb, 11, none⟩ (.int .i64 ch) := ⟨_, rfl⟩
    have hFm : Fr sb (fun o => 8 ≤ o ∧ o ≤ 11) wc wm := by
      subst hwm
      repeat (first | with_reducible refine Fr.set ?_ _ _ (by omega) | with_reducible exact Fr.refl _ _ _)
    have n8 : wm.cell? ⟨sb, 8, none⟩ = some (.int .i64 offs) := by subst hwm; simp [go_sem, k8, k9, k10, k11]
    have n9 : wm.cell? ⟨sb, 9, none⟩ = some (.int .i64 line) := by subst hwm; simp [go_sem, k8, k9, k10, k11]
    have n10 : wm.cell? ⟨sb, 10, none⟩ = some (.int .i64 col) := by subst hwm; simp [go_sem, k8, k9, k10, k11]
    have n11 : wm.cell? ⟨sb, 11, none⟩ = some (.int .i64 ch) := by subst hwm; simp [go_sem, k8, k9, k10, k11]
    have Hwm := (show Hid _ from hwm)
    clear hwm
    go_upto_region 24 with fail
    go_cut [12] from 16 (fun sp wx => sp = .pointer (some ⟨sb, 0, none⟩) ∧ Below kb wk wx ∧ wk.heap.size + 2 ≤ wx.heap.size ∧
      Aft wx wk.heap.size sb kb k ka offs line col ta tb tc (if ka then newLow lo k else lo) (lastKey ka ind col af (wrap64 (wrap64 (tk + q) - hd)) ch offs line ta tb tc k (Z (k - 1) % 2 == 1)))
    case first =>
      rw [← Hwm.out]
      have hbm : Below kb wk wm := (hbk.mono (by omega)).trans (hFm.below (by omega))
      have hszm : wm.heap.size = wc.heap.size := hFm.size
      have hK2 : Keys wm kb k (k + 1) := hK1.below (hFm.below (B := sb) (Nat.le_refl _)) (by omega)
      have hszc : wk.heap.size + 2 ≤ wc.heap.size := by have := hbs.size; simpa using this
      cases ka
      · go_wp2_with fail
        refine (save_no wm sb ((hFm.cel _ (by omega)).trans hS.c32)).mono ?_
        rintro e w' ⟨rfl, rfl⟩
        go_wp2_with fail
        go_meet
        case rel =>
          refine ⟨rfl, hbm, by omega, ⟨(hFm.cell (by simp; omega)).trans m0, (hFm.cell (by simp; omega)).trans m1, (hFm.cell (by simp; omega)).trans m2, (hFm.cell (by simp; omega)).trans t0, (hFm.cell (by simp; omega)).trans t1, (hFm.cell (by simp; omega)).trans t2, ?_, ?_, ?_, ?_, ?_⟩⟩
          · exact (hFm.cel _ (by omega)).trans hS.c30
          · exact (hFm.cel _ (by omega)).trans hS.c31
          · exact (hFm.cel _ (by omega)).trans hS.c32
          · exact fun i hi => hK2.done i (by omega) (by omega)
          · exact hK2.done k (by omega) (by omega)
      · have hIn : In wm sb (w.heap.size + 1) kb k ind col lo ch tk hd offs line ta tb tc af qa q q (fkind (Z (k - 1))) := 
          { c8 := n8, c9 := n9, c10 := n10, c11 := n11,
            c19 := (hFm.cel _ (by omega)).trans hS.c19, c20 := (hFm.cel _ (by omega)).trans hS.c20, c21 := (hFm.cel _ (by omega)).trans hS.c21, c25 := (hFm.cel _ (by omega)).trans hS.c25,
            c29 := (hFm.cel _ (by omega)).trans hS.c29, c30 := (hFm.cel _ (by omega)).trans hS.c30, c31 := (hFm.cel _ (by omega)).trans hS.c31, c32 := (hFm.cel _ (by omega)).trans hS.c32, c33 := (hFm.cel _ (by omega)).trans hS.c33,
            c34 := (hFm.cel _ (by omega)).trans hS.c34, c35 := (hFm.cel _ (by omega)).trans hS.c35, c36 := (hFm.cel _ (by omega)).trans hS.c36,
            key := fun j hj => hK2.there k j (Nat.le_refl _) hj, kfz := hK2.frz, sfz := fun o => (hFm.frz _).trans (hS.frz o),
            flow := fun hp => by
              have hc := hfl1.cell (i := k - 1) (by omega)
              rw [if_pos (by omega)] at hc
              exact (hFm.cell (by simp; omega)).trans hc }
        go_wp2_with fail
        refine (save_yes wm sb (w.heap.size + 1) kb k ind col lo ch tk hd offs line ta tb tc af qa q q (fkind (Z (k - 1))) hnb hne3 (by omega) hIn).mono ?_
        rintro e w' ⟨rfl, w4, hF4, hF5, hlow, hkey⟩
        have hsz4 : w4.heap.size = wm.heap.size := hF4.size
        have hsz5 : w'.heap.size = w4.heap.size := hF5.size
        have hcm : ∀ a v, a.block ≠ sb → a.block ≠ kb → wc.cell? a = some v → w'.cell? a = some v := fun a v h1 h2 h => by rw [hF5.cell h1, hF4.cell h2, hFm.cell h1, h]
        go_wp2_with fail
        go_meet
        case rel =>
          refine ⟨rfl, (hbm.trans (hF4.below (Nat.le_refl _))).trans (hF5.below (by omega)), by omega, ⟨hcm _ _ (by simp; omega) (by simp; omega) m0, hcm _ _ (by simp; omega) (by simp; omega) m1, hcm _ _ (by simp; omega) (by simp; omega) m2, hcm _ _ (by simp; omega) (by simp; omega) t0, hcm _ _ (by simp; omega) (by simp; omega) t1, hcm _ _ (by simp; omega) (by simp; omega) t2, ?_, ?_, ?_, ?_, ?_⟩⟩
          · rw [hF5.cel _ (by omega), hF4.cell hne3]; exact hIn.c30
          · simpa using hlow
          · rw [hF5.cel _ (by omega), hF4.cell hne3]; exact hIn.c32
          · intro i hi j v hv
            have hj : j < 13 := (List.getElem?_eq_some_iff.1 hv).1
            rw [hF5.cell (fun e => hne3 e.symm), hF4.cel _ (by omega)]
            exact hK2.done i (by omega) (by omega) j v hv
          · intro j v hv
            rw [hF5.cell (fun e => hne3 e.symm)]
            refine hkey j v ?_
            rw [fkind_ten]
            simpa [lastKey] using hv
    case rest =>
      obtain ⟨rfl, hbn, hszn, hA⟩ := hcut
      clear Hwm hFm n8 n9 n10 n11 k8 k9 k10 k11 sfz m0 m1 m2 t0 t1 t2 j0 j1 j2 j5 j9 j12 j13 j14 hK1 hfl1 hS hbs hbk hK hfl
      have hBn : w.heap.size < kb := by omega
      have j0 : wc.cell? ⟨w.heap.size, 0, none⟩ = some (.bool ka) := (hbn.cell hBn).trans i0
      have j1 : wc.cell? ⟨w.heap.size, 1, none⟩ = some (.int .i64 ind) := (hbn.cell hBn).trans i1
      have j2 : wc.cell? ⟨w.heap.size, 2, none⟩ = some (.int .i64 col) := (hbn.cell hBn).trans i2
      have j5 : wc.cell? ⟨w.heap.size, 5, none⟩ = some (.bool af) := (hbn.cell hBn).trans i5
      have j9 : wc.cell? ⟨w.heap.size, 9, none⟩ = some (.int .i64 tk) := (hbn.cell hBn).trans i9
      have j12 : wc.cell? ⟨w.heap.size, 12, none⟩ = some (.int .i64 ch) := (hbn.cell hBn).trans i12
      have j13 : wc.cell? ⟨w.heap.size, 13, none⟩ = some (.int .i64 lo) := (hbn.cell hBn).trans i13
      have j14 : wc.cell? ⟨w.heap.size, 14, none⟩ = some (.slice fa k fc) := (hbn.cell hBn).trans i14
      clear i0 i1 i2 i3 i4 i5 i6 i7 i8 i9 i10 i11 i12 i13 i14
      have hbw : Below w.heap.size w wc := ((Below.refl _ w).alloc (Nat.le_refl _) _).trans ((hbe.mono (by omega)).trans (hbn.mono (by omega)))
      refine ‹∀ (a : Act) (w : World), Code.wp Yba.prog _ _ a w → _› _ _ ?_
      exact tail15 _ (by kernel_rfl) ka ind col line offs af ta tb tc tk ch lo hd q k fc kb sb fa Z w wk wc _ _ _ _ _ _ _ _ _ _ _ _ _ _ _ _ _ _ _ _ _ _ _ _ _ _ _ _ _ _ _ _ _ _ _ _ _ _ _ _ _ _ _ _ _ _ _ _ _ _ _ _ _ _ _ _ _ _ _ _ _ _ _ _ _ _ _ _ _ _ _ _ _ _ _ _ _ _ _ _ _ _ _ _ _ _ _ _ _ _ _ _ _ _ _ _ _ _ _ _ _ _ _ _ _ _ _ _ _ _ _ _ _ _ _ _ _ _ _ _ _ _ _ _ _ _ _ _ _ _ _ _ _ _ _ _ _ _ _ _ _ _ _ _ _ _ _ _ _ _ _ _ _ _ _ _ _ _ _ _ _ _ _ _ _ _ _ _ _ _ _ _ _ _ _ _ _ _ _ _ _ _ _ _ _ _ _ _ _ _ _ _ _ _ _ hnb hF hz hA j0 j1 j2 j5 j9 j12 j13 j14 hbw

end Go.Proofs.Ybulkaakm.Save
