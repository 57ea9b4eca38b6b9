/-
  LawS1324BSets: THE WALK.
-/
import Derived.Test.YbulkaajyWon
namespace Go.Proofs.Ybulkaajy
open Go.RowKit Go.MuLone

theorem won_two (rt sb : Nat) (w : World) (h0 : w.cell? ⟨rt, 1, none⟩ = some (.pointer none)) (h1 : w.cell? ⟨sb, 1, none⟩ = some (.pointer (some ⟨rt, 0, none⟩))) (hc : w.cell? ⟨sb, 11, none⟩ = some (.bool true)) :
    Calls Yba.prog 8 #[.pointer (some ⟨sb, 0, none⟩)] w fun e w' => e = .returned (.bool true) ∧ w' = w :=
  won_any (fun k => match k with | 0 => rt | _ + 1 => sb) (fun _ => true) 1 w h0 (fun k hk => by obtain rfl : k = 0 := (by omega); exact h1) (fun k hk => by obtain rfl : k = 0 := (by omega); exact hc)

set_option maxRecDepth 100000 in
set_option maxHeartbeats 1600000 in
theorem sets_any (a0 a1 a2 a3 : Bool) (a4 : Int) (w : World) :
    Calls Yba.prog 3 #[.bool a0, .bool a1, .bool a2, .bool a3, .int .i64 a4] w fun e w' => e = .returned (.bool true) ∧ Grown w w' := by
  obtain ⟨j43, hj43⟩ : ∃ j, Yba.prog.info? 43 = some j := ⟨_, rfl⟩
  obtain ⟨j34, hj34⟩ : ∃ j, Yba.prog.info? 34 = some j := ⟨_, rfl⟩
  have e22 := fun (wx : World) (a : Addr) => run_eql_ptr_same (P := Yba.prog) wx a Yba.underlying22 hj43
  have e23 := fun (wx : World) (a : Addr) => run_eql_ptr_same (P := Yba.prog) wx a Yba.underlying23 hj34
  go_enter Yba.func3, Yba.ntmps3
  go_wp2_with fail
  refine (choose_nil _).mono ?_
  rintro e w' ⟨rfl, hw'⟩
  obtain rfl := hw'.symm
  go_wp2_with fail
  refine (choose_any (w.heap.size + 1 + 1) w.heap.size (.bool a0) _ (by simp [go_sem]) (by simp [go_sem]) (by simp [go_sem]) (by simp [go_sem]) (by simp [go_sem])).mono ?_
  rintro e w' ⟨rfl, rfl⟩
  go_wp2_with fail
  refine (try_free ⟨w.heap.size, 1, none⟩ _ (by simp [go_sem]) (by simp [go_sem])).mono ?_
  rintro e w' ⟨rfl, rfl⟩
  go_wp2_with fail
  refine (unlock_held muLib ⟨w.heap.size, 1, none⟩ _ (by simp [go_sem]) (by simp [go_sem])).mono ?_
  rintro e w' ⟨rfl, rfl⟩
  go_wp2_with fail
  refine (won_two (w.heap.size + 1) (w.heap.size + 1 + 1) _ (by simp [go_sem]) (by simp [go_sem]) (by simp [go_sem])).mono ?_
  rintro e w' ⟨rfl, rfl⟩
  go_wp2
  go_ret
  exact ⟨rfl, by repeat (first | exact Grown.refl _ | apply Grown.drew | apply Grown.alloc)⟩

end Go.Proofs.Ybulkaajy
