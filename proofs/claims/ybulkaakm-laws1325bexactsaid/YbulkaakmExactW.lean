/-
  LawS1325BExact: THE WALK.
-/
import Derived.Test.YbulkaakmSkip
import Derived.Deep.CutRange
namespace Go.Proofs.Ybulkaakm
open Go.RowKit

theorem lt_of_cell {w : World} {p : Addr} {v : Value} (h : w.cell? p = some v) : p.block < w.heap.size := by
  unfold World.cell? at h
  split at h
  · rename_i hh; exact (Array.getElem?_eq_some_iff.1 hh).1
  · cases h

theorem info3 : (Yba.prog.info? 3).map (fun i => (i.zero, i.size, i.bytes)) = some (some (.int .i64 0), 1, 8) := by kernel_rfl

/-- A slice of ints of the call's own: nil where it is empty; else at the head of a row. -/
def Own (w : World) (ca : Option Addr) (len : Nat) (Z : Nat → Int) : Prop := ∀ i, i < len → ∃ g, ca = some ⟨g, 0, none⟩ ∧ w.cell? ⟨g, i, none⟩ = some (.int .i64 (Z i))

theorem Own.below {w w' : World} {a : Option Addr} {len : Nat} {Z : Nat → Int} (h : Own w a len Z) {B : Nat} (hb : Below B w w') (hB : w.heap.size ≤ B) : Own w' a len Z := by
  intro i hi
  obtain ⟨g, ha, hc⟩ := h i hi
  exact ⟨g, ha, by rw [hb.cell (Nat.lt_of_lt_of_le (lt_of_cell hc) hB), hc]⟩

set_option maxRecDepth 100000 in
set_option maxHeartbeats 4000000 in
theorem exact_any (a0 : Bool) (pos off line col chars : Int) (a6 : Option Addr) (len cap : Nat) (Z : Nat → Int) (hd : Int) (hit : Bool) (w : World) (hl : len ≤ maxLen) (h0 : 0 ≤ hd) (h1 : hd ≤ 255)
    (hnone : a6 = none → len = 0 ∧ cap = 0) (hc : ∀ i, i < len → ∃ b o, a6 = some ⟨b, o, none⟩ ∧ w.cell? ⟨b, o + i, none⟩ = some (.int .i64 (Z i))) :
    Calls Yba.prog 4 #[.bool a0, .int .i64 pos, .int .i64 off, .int .i64 line, .int .i64 col, .int .i64 chars, .slice a6 len cap, .int .u8 hd, .bool hit] w fun e w' => e = .returned (.bool true) ∧ Below w.heap.size w w' := by
  unfold maxLen at hl
  obtain ⟨i0, hi, hz0, hz1, hz2⟩ := info_parts info3
  by_cases hlb : len ≤ 1024
  · go_enter Yba.func4, Yba.ntmps4
    go_upto_region 3 with fail
    go_cut [19] from 26 (fun v wx => ∃ (ca : Option Addr) (cp : Nat), v = .slice ca len cp ∧ Own wx ca len Z ∧ Below w.heap.size w wx)
    case first =>
      cases a6 with
      | none =>
        obtain ⟨rfl, rfl⟩ := hnone rfl
        have hrun := fun (wx : World) (ty : TypeId) => run_append_owned_none (P := Yba.prog) wx w.heap.size 39 ty 3 i0 1 Yba.underlying39 hi (.slice none 0 0) 0 [] (World.ownsRow_nil _ _ _ _)
        go_wp2_with fail
        go_meet
        case rel => exact ⟨none, 0, rfl, fun i hi => by omega, Below.refl _ _⟩
      | some ad =>
        have hnews : ∀ (j : Nat) (u : Value), ((List.range len).map fun i => Value.int .i64 (Z i))[j]? = some u → w.cell? (ad.add j) = some u := by
          intro j u hu
          have hj : j < len := by
            have := (List.getElem?_eq_some_iff.1 hu).1
            simpa using this
          obtain ⟨b, o, hb, hcell⟩ := hc j hj
          cases hb
          simp [hj] at hu
          rw [Addr.add_lit, hcell, hu]
        have hone : ∀ u ∈ (List.range len).map (fun i => Value.int .i64 (Z i)), u.oneCell' = true := by
          intro u hu
          obtain ⟨i, _, rfl⟩ := List.mem_map.1 hu
          rfl
        go_wp2_with (at_builtin; refine wpList_append_own _ rfl _ _ 39 rfl w.heap.size 3 i0 (.int .i64 0) 1 8 Yba.underlying39 hi hz0 hz1 hz2 rfl (by decide) _ _ _ rfl (World.ownsRow_nil _ _ _ _) ad len cap ((List.range len).map fun i => Value.int .i64 (Z i)) rfl (by simp) hnews hone (by unfold maxLen; omega) (by omega) (Nat.le_refl _) ?_)
        intro v1 w1 hown1 hg1 hnil1
        go_wp2_with fail
        go_meet
        case rel =>
          have hb1 : Below w.heap.size w w1 := (Below.refl _ _).grown hg1 (Nat.le_refl _) (fun j hj => by cases hj)
          rcases hown1.2 with ⟨rfl, h0⟩ | ⟨g, cp, cur, rfl, _⟩
          · subst h0
            exact ⟨none, 0, rfl, fun i hi => by omega, hb1⟩
          · refine ⟨_, cp, rfl, fun i hi => ⟨g, rfl, ?_⟩, hb1⟩
            rw [hown1.cellAt i (by omega)]
            simp [hi]
    case rest =>
      obtain ⟨ca, cp, rfl, hO, hb⟩ := hcut
      clear hc hnone
      go_upto_if 31 with fail
      go_cut [20] from 26 (fun v wx => ∃ unit : Int, v = .int .i64 unit ∧ 1 ≤ unit ∧ unit ≤ 2 ∧ wx = wc)
      case first =>
        cases a0
        · go_wp2_with fail
          go_meet
          case rel => exact ⟨1, rfl, by omega, by omega, rfl⟩
        · go_wp2_with fail
          go_meet
          case rel => exact ⟨2, rfl, by omega, by omega, rfl⟩
      case rest =>
        obtain ⟨unit, rfl, hu0, hu1, rfl⟩ := hcut
        obtain ⟨h, hh, hle⟩ : ∃ h : Nat, hd % ((len : Int) + 1) = (h : Int) ∧ h ≤ len := by
          refine ⟨(hd % ((len : Int) + 1)).toNat, ?_, ?_⟩
          · have := Int.emod_nonneg hd (b := (len : Int) + 1) (by omega); omega
          · have := Int.emod_lt_of_pos hd (b := (len : Int) + 1) (by omega); omega
        go_upto_region 8 with fail
        go_cut [21, 44] from 26 (fun s v wx => s = .int .i64 h ∧ ∃ t : Bool, v = .bool t ∧ (t = true → h < len) ∧ wx = wc)
        case first =>
          cases hit
          · go_wp2_with fail
            go_meet
            case rel => exact ⟨by first | rfl | rw [hh], false, rfl, fun h => (by cases h), rfl⟩
          · go_wp2_with fail
            go_meet
            case rel => exact ⟨by first | rfl | rw [hh], _, rfl, fun h => (by simp at h; omega), rfl⟩
        case rest =>
          obtain ⟨rfl, t, rfl, ht, rfl⟩ := hcut
          clear hh h0 h1
          go_upto_if 44 with fail
          go_cut [1] from 26 (fun v wx => ∃ ps : Int, v = .int .i64 ps ∧ wx = wc)
          case first =>
            cases t
            · go_wp2_with fail
              go_meet
              case rel => exact ⟨pos, rfl, rfl⟩
            · have hhl := ht rfl
              obtain ⟨g, rfl, hcg⟩ := hO h hhl
              go_wp2_with fail
              go_meet
              case rel => exact ⟨Z h, rfl, rfl⟩
          case rest =>
            clear ht
            obtain ⟨pos, rfl, rfl⟩ := hcut
            by_cases hhl : h < len
            · obtain ⟨g, rfl, hcg⟩ := hO h hhl
              have hgl : g < wc.heap.size := lt_of_cell hcg
              have hdl : decide ((h : Int) < (len : Int)) = true := by simp; omega
              clear hO
              by_cases hzp : Z h = pos
              · subst hzp
                go_wp2_with fail
                refine (skip_hit wc.heap.size h len cp unit (Z h) off line col chars g _ hu0 hu1 hlb hhl (heap_alloc_new _ _) ((World.cell?_alloc_past _ _ _ hgl).trans hcg)).mono ?_
                rintro e w' ⟨rfl, hr', hg'⟩
                rw [Int.mul_comm unit 2] at hr'
                have c4 : w'.cell? ⟨wc.heap.size, 4, none⟩ = some (.int .i64 unit) := by simp [World.cell?, hr']
                have c7 : w'.cell? ⟨wc.heap.size, 7, none⟩ = some (.int .i64 (wrap64 (Z h + 1))) := by simp [World.cell?, hr']
                have c8 : w'.cell? ⟨wc.heap.size, 8, none⟩ = some (.int .i64 (wrap64 (off + 2 * unit))) := by simp [World.cell?, hr']
                have c9 : w'.cell? ⟨wc.heap.size, 9, none⟩ = some (.int .i64 (wrap64 (line + 1))) := by simp [World.cell?, hr']
                have c10 : w'.cell? ⟨wc.heap.size, 10, none⟩ = some (.int .i64 0) := by simp [World.cell?, hr']
                have c11 : w'.cell? ⟨wc.heap.size, 11, none⟩ = some (.int .i64 (wrap64 (chars + 1))) := by simp [World.cell?, hr']
                have c12 : w'.cell? ⟨wc.heap.size, 12, none⟩ = some (.slice (some ⟨g, 0, none⟩) len cp) := by simp [World.cell?, hr']
                have c13 : w'.cell? ⟨wc.heap.size, 13, none⟩ = some (.int .i64 ((h : Int) + 1)) := by simp [World.cell?, hr']
                have hfin : Below w.heap.size w w' := (hb.alloc hb.size _).grown hg' (by have := hb.size; simp; omega) (fun j hj => by cases hj; exact hb.size)
                clear hr' hg'
                go_wp2
                go_ret
                exact ⟨by simp, hfin⟩
              · have hzp' : (Z h == pos) = false := by simpa using hzp
                go_wp2_with fail
                refine (skip_other wc.heap.size h len cp unit pos off line col chars (Z h) g _ hhl hzp' (heap_alloc_new _ _) ((World.cell?_alloc_past _ _ _ hgl).trans hcg)).mono ?_
                rintro e w' ⟨rfl, hr', hg'⟩
                have c4 : w'.cell? ⟨wc.heap.size, 4, none⟩ = some (.int .i64 unit) := by simp [World.cell?, hr']
                have c7 : w'.cell? ⟨wc.heap.size, 7, none⟩ = some (.int .i64 (wrap64 (pos + 1))) := by simp [World.cell?, hr']
                have c8 : w'.cell? ⟨wc.heap.size, 8, none⟩ = some (.int .i64 (wrap64 (off + unit))) := by simp [World.cell?, hr']
                have c9 : w'.cell? ⟨wc.heap.size, 9, none⟩ = some (.int .i64 (wrap64 (line + 1))) := by simp [World.cell?, hr']
                have c10 : w'.cell? ⟨wc.heap.size, 10, none⟩ = some (.int .i64 0) := by simp [World.cell?, hr']
                have c11 : w'.cell? ⟨wc.heap.size, 11, none⟩ = some (.int .i64 (wrap64 (chars + 1))) := by simp [World.cell?, hr']
                have c12 : w'.cell? ⟨wc.heap.size, 12, none⟩ = some (.slice (some ⟨g, 0, none⟩) len cp) := by simp [World.cell?, hr']
                have c13 : w'.cell? ⟨wc.heap.size, 13, none⟩ = some (.int .i64 h) := by simp [World.cell?, hr']
                have hfin : Below w.heap.size w w' := (hb.alloc hb.size _).grown hg' (by have := hb.size; simp; omega) (fun j hj => by cases hj; exact hb.size)
                clear hr' hg'
                go_wp2
                go_ret
                exact ⟨by simp, hfin⟩
            · have hdl : decide ((h : Int) < (len : Int)) = false := by simp; omega
              clear hO
              go_wp2_with fail
              refine (skip_past wc.heap.size h len cp unit pos off line col chars ca _ hhl (heap_alloc_new _ _)).mono ?_
              rintro e w' ⟨rfl, hr', hg'⟩
              have c4 : w'.cell? ⟨wc.heap.size, 4, none⟩ = some (.int .i64 unit) := by simp [World.cell?, hr']
              have c7 : w'.cell? ⟨wc.heap.size, 7, none⟩ = some (.int .i64 (wrap64 (pos + 1))) := by simp [World.cell?, hr']
              have c8 : w'.cell? ⟨wc.heap.size, 8, none⟩ = some (.int .i64 (wrap64 (off + unit))) := by simp [World.cell?, hr']
              have c9 : w'.cell? ⟨wc.heap.size, 9, none⟩ = some (.int .i64 (wrap64 (line + 1))) := by simp [World.cell?, hr']
              have c10 : w'.cell? ⟨wc.heap.size, 10, none⟩ = some (.int .i64 0) := by simp [World.cell?, hr']
              have c11 : w'.cell? ⟨wc.heap.size, 11, none⟩ = some (.int .i64 (wrap64 (chars + 1))) := by simp [World.cell?, hr']
              have c12 : w'.cell? ⟨wc.heap.size, 12, none⟩ = some (.slice ca len cp) := by simp [World.cell?, hr']
              have c13 : w'.cell? ⟨wc.heap.size, 13, none⟩ = some (.int .i64 h) := by simp [World.cell?, hr']
              have hfin : Below w.heap.size w w' := (hb.alloc hb.size _).grown hg' (by have := hb.size; simp; omega) (fun j hj => by cases hj; exact hb.size)
              clear hr' hg'
              go_wp2
              go_ret
              exact ⟨by simp, hfin⟩
  · go_enter Yba.func4, Yba.ntmps4
    go_wp2
    go_ret
    exact ⟨rfl, Below.refl _ _⟩

end Go.Proofs.Ybulkaakm
