/-
  THE NUMBERS UNDER WHICH THIS DUMP HOLDS sync.Mutex, THAT IT HOLDS IT, AND TryLock's CONTRACT.
-/
import Derived.Test.YbulkaajyRows
import Derived.Conc.MuLone
import Derived.Conc.MuLib
import Derived.WalkKit
import Derived.WalkSpells
import Derived.WalkLawsBesides
namespace Go.Proofs.Ybulkaajy
open Go.RowKit Go.MuLone

abbrev muLink : Go.Conc.Locks.MuLink := { lock := 9, unlock := 7, ilock := 12, iunlock := 11, lockSlow := 20, unlockSlow := 19, disable := 13, enable := 14, acquire := 16, relMerge := 17, cas32 := 15, add32 := 18, tMutex := 31, tIMutex := 29, tPMutex := 48, tPIMutex := 49, tPI32 := 51, tUP := 53, tNoCopy := 26, tU32 := 27 }
theorem muLib : Go.Conc.Locks.MuLib Yba.prog muLink :=
  ⟨Yba.func9, Yba.func7, Yba.func12, Yba.func11, Yba.func13, Yba.func14, Yba.func16, Yba.func17, Yba.func15, Yba.func18, Yba.underlying29, Yba.runUnderlying29, Yba.sizeOf29, Yba.isAgg29, Yba.zeroValue29, Yba.underlying31, Yba.runUnderlying31, Yba.sizeOf31, Yba.isAgg31, Yba.zeroValue31, Yba.underlying48, Yba.runUnderlying48, Yba.sizeOf48, Yba.isAgg48, Yba.zeroValue48, Yba.underlying49, Yba.runUnderlying49, Yba.sizeOf49, Yba.isAgg49, Yba.zeroValue49, Yba.underlying51, Yba.runUnderlying51, Yba.sizeOf51, Yba.isAgg51, Yba.zeroValue51, Yba.underlying53, Yba.runUnderlying53, Yba.sizeOf53, Yba.isAgg53, Yba.zeroValue53, Yba.underlying26, Yba.runUnderlying26, Yba.sizeOf26, Yba.isAgg26, Yba.zeroValue26, Yba.underlying21, Yba.runUnderlying21, Yba.sizeOf21, Yba.isAgg21, Yba.zeroValue21, (by kernel_rfl)⟩

/-- A pointer to a mutex as a bare pointer: the same address. -/
theorem pointer_cast {a : Addr} {v : Value} {w : World} (hc : w.cell? a = some v) : (convert 49 53 (.pointer (some a))).run Yba.prog w = .ok (.pointer (some a)) w := by
  obtain ⟨e, n, hsh, hlt, hsp⟩ := World.shape?_of_cell? hc
  have hsz : (Yba.prog.info? 29).map (fun i => decide (i.size = 0)) = some false := by kernel_rfl
  obtain ⟨i, hi, hz0⟩ := Option.map_eq_some_iff.1 hsz
  have hz : i.size ≠ 0 := by simpa using hz0
  have hge : ¬ (n ≤ a.off) := by omega
  simp only [convert, Sem.run_bind, run_underlying Yba.underlying49, run_underlying Yba.underlying53, Result.andThen]
  show Sem.run Yba.prog (underlying 49 >>= fun u => underlying 53 >>= fun t => _) w = _
  simp [Conv.seenAt, viewAt, cellsIn, sizeOf, typeInfo, run_underlying Yba.underlying49, run_underlying Yba.underlying53, hi, hz, hsh, hge, Result.andThen]

set_option maxHeartbeats 800000 in
/-- '(*internal/sync.Mutex).TryLock', the lock free and nobody waiting (state 0): taken: state 1; true. -/
theorem itry_free (a : Addr) (w : World) (hc : w.cell? a = some (.int .i32 0)) (hz : w.frozen? a = false) :
    Calls Yba.prog 10 #[.pointer (some a)] w fun e w' => e = .returned (.bool true) ∧ w' = w.setCell a (.int .i32 1) := by
  have hd : ∀ w, (callFunc 13 #[]).run Yba.prog w = .ok (.value (.tuple #[])) w := disable muLib
  have he : ∀ w, (callFunc 14 #[]).run Yba.prog w = .ok (.value (.tuple #[])) w := enable muLib
  have ha : ∀ a w, (callFunc 16 #[.pointer (some a)]).run Yba.prog w = .ok (.value (.tuple #[])) w := acquire muLib
  have hcas := run_call_cas_hit (P := Yba.prog) Yba.func15 (by kernel_rfl) (by kernel_rfl) (by kernel_rfl) .i32 (by kernel_rfl) (y := 1) hc hz
  have hc' : (w.setCell a (.int .i32 1)).cell? a = some (.int .i32 1) := by simp [go_sem, hc]
  have hcv := pointer_cast hc'
  go_enter Yba.func10, Yba.ntmps10
  go_wp2
  go_ret
  exact ⟨rfl, rfl⟩

set_option maxHeartbeats 800000 in
/-- '(*sync.Mutex).TryLock', the lock free and nobody waiting (state 0): taken: state 1; true. -/
theorem try_free (a : Addr) (w : World) (hc : w.cell? a = some (.int .i32 0)) (hz : w.frozen? a = false) :
    Calls Yba.prog 6 #[.pointer (some a)] w fun e w' => e = .returned (.bool true) ∧ w' = w.setCell a (.int .i32 1) := by
  go_enter Yba.func6, Yba.ntmps6
  go_wp2_with (go_at_call 10; refine (itry_free a _ hc hz).mono ?_; rintro e w' ⟨rfl, rfl⟩)
  go_ret
  exact ⟨rfl, rfl⟩

/-- '(*span).choose' of nil: nothing. -/
theorem choose_nil (w : World) : Calls Yba.prog 5 #[.pointer none] w fun e w' => e = .returned (.tuple #[]) ∧ w' = w := by
  go_enter_defers Yba.func5, Yba.ntmps5
  go_wp2
  exact ⟨_, results_none rfl _ _ _, rfl, rfl⟩

set_option maxHeartbeats 800000 in
/-- '(*span).choose', the record's lock free: 'chosen' is set; the lock is free again. -/
theorem choose_any (sb rb : Nat) (x : Value) (w : World) (h0 : w.cell? ⟨sb, 0, none⟩ = some (.pointer (some ⟨rb, 0, none⟩))) (h1 : w.cell? ⟨rb, 1, none⟩ = some (.int .i32 0)) (f1 : w.frozen? ⟨rb, 1, none⟩ = false)
    (h11 : w.cell? ⟨sb, 11, none⟩ = some x) (f11 : w.frozen? ⟨sb, 11, none⟩ = false) :
    Calls Yba.prog 5 #[.pointer (some ⟨sb, 0, none⟩)] w fun e w' => e = .returned (.tuple #[]) ∧
      w' = ((w.setCell ⟨rb, 1, none⟩ (.int .i32 1)).setCell ⟨sb, 11, none⟩ (.bool true)).setCell ⟨rb, 1, none⟩ (.int .i32 0) := by
  go_enter_defers Yba.func5, Yba.ntmps5
  go_wp2_with (go_at_call 9; refine (lock_free muLib ⟨rb, 1, none⟩ _ h1 f1).mono ?_; rintro e w' ⟨rfl, rfl⟩)
  refine leaves_cons (f := 7) (args := #[.pointer (some ⟨rb, 1, none⟩)]) (by simp) (by simp [go_sem]) ?_
  refine (unlock_deferred muLib ⟨rb, 1, none⟩ .returning _ ?_ ?_).mono ?_
  · exact (World.cell?_setCell_other _ ⟨sb, 11, none⟩ ⟨rb, 1, none⟩ _ (by simp)).trans (World.cell?_setCell_same w ⟨rb, 1, none⟩ (.int .i32 1) h1)
  · simp [f1]
  rintro e u' w'' ⟨rfl, rfl, rfl⟩
  exact ⟨_, results_none rfl _ _ _, rfl, rfl⟩

end Go.Proofs.Ybulkaajy
