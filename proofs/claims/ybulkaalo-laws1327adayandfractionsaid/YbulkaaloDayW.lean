/-
  LawS1327ADayAndFraction: THE WALKS of math.Floor (7), unixSeconds (5) and the law (3).
-/
import Derived.Test.YbulkaaloRows
import Derived.Test.YbulkaaloFp
import Derived.WalkKit
import Derived.ProofKit
import Derived.WalkLawsBesides
import Derived.Laws.Externs
namespace Go.Proofs.Ybulkaalo.Day
open Go.RowKit Fp
set_option linter.unusedSimpArgs false

theorem call10 (args : Array Value) (w : World) : (callFunc 10 args).run Yba.prog w = ((Extern.MathFloor.toIntegral "math.archFloor" .down args).run Yba.prog w).andThen fun v w' => .ok (.value v) w' :=
  run_callFunc_extern Yba.func10 (by kernel_rfl) (by kernel_rfl) (by kernel_rfl) (by kernel_rfl) args w

theorem floor_opened (x : Nat) : ∃ f : Bool → Nat → Sem Value, Extern.MathFloor.toIntegral "math.archFloor" .down #[.float .f64 x] = (match FloatKind.f64.decode x with | .nan s t => f s t | d => pure (.float .f64 (FloatKind.f64.encode (d.integral .down)))) := ⟨_, rfl⟩

theorem floor10 (x r : Nat) (hr : FloatKind.f64.encode ((FloatKind.f64.decode x).integral .down) = r) (hn : ∀ s t, FloatKind.f64.decode x ≠ .nan s t) (w : World) :
    (Extern.MathFloor.toIntegral "math.archFloor" .down #[.float .f64 x]).run Yba.prog w = .ok (.float .f64 r) w := by
  subst hr
  obtain ⟨f, hf⟩ := floor_opened x
  rw [hf]
  cases hd : FloatKind.f64.decode x with
  | nan s t => exact absurd hd (hn s t)
  | number s m p => rfl
  | infinity s => rfl

/-- math.Floor. -/
theorem floor_any (x r : Nat) (hr : FloatKind.f64.encode ((FloatKind.f64.decode x).integral .down) = r) (hn : ∀ s t, FloatKind.f64.decode x ≠ .nan s t) (w : World) :
    Calls Yba.prog 7 #[.float .f64 x] w fun e w' => e = .returned (.float .f64 r) ∧ w' = w := by
  have h10 : ∀ w, (callFunc 10 #[.float .f64 x]).run Yba.prog w = .ok (.value (.float .f64 r)) w := fun w => by rw [call10, floor10 x r hr hn]; rfl
  go_enter Yba.func7, Yba.ntmps7
  go_wp2_with (simp only [h10])
  all_goals (go_ret; exact ⟨rfl, rfl⟩)

theorem half_is : Is 4602678819172646912 524288 := by
  have e : Ieee.double.nearest false 1 (-1) = 4602678819172646912 := by decide
  rw [← e]
  refine Is.write (by omega) (by decide) ?_
  have := hD
  rw [show ((-1 : Int) + 20 + D).toNat = 19 + D from by omega, signed_up]
  rfl

theorem epoch_is : Is 4702495533095190528 2559141478400 := by
  have e : Ieee.double.nearest false 4881175 (-1) = 4702495533095190528 := by decide
  rw [← e]
  refine Is.write (by omega) (by decide) ?_
  have := hD
  rw [show ((-1 : Int) + 20 + D).toNat = 19 + D from by omega, signed_up]
  rfl

theorem day_is : Is 4680673776000565248 (86400 * 2 ^ 20) := by
  have := Is.ofInt 86400 (by decide)
  rw [show floatOfInt .f64 86400 = 4680673776000565248 from by decide] at this
  exact this

/-- unixSeconds. -/
theorem unix_any (jd low : Nat) (dd mm ll : Int) (hj : Is jd (2559141478400 + dd * 1048576 + mm * 1024)) (hl : Is low ll) (d0 : -1000000 < dd) (d1 : dd < 1000000) (m0 : 0 ≤ mm) (m1 : mm < 1024) (l0 : -1024 < ll) (l1 : ll < 1024) (w : World) :
    Calls Yba.prog 5 #[.float .f64 jd, .float .f64 low] w fun e w' => (∃ f, e = .returned (.tuple #[.int .i64 (dd * 86400 + (mm * 1024 + ll) * 675 / 8192), .float .f64 f]) ∧ Is f ((mm * 1024 + ll) * 675 % 8192 * 128)) ∧ w' = w := by
  obtain ⟨r1, b1, s1⟩ := Is.sub hj half_is (by show _ < 9007199254740992; omega)
  obtain ⟨s2, n2⟩ := Is.floor s1 (by show _ < 4503599627370496; omega)
  rw [show (2559141478400 + dd * 1048576 + mm * 1024 - 524288) / 1048576 * 1048576 = (2440587 + dd) * 1048576 from by omega] at s2
  generalize h2 : FloatKind.f64.encode ((FloatKind.f64.decode r1).integral .down) = r2 at s2
  obtain ⟨r3, b3, s3⟩ := Is.sub s1 s2 (by show _ < 9007199254740992; omega)
  obtain ⟨r4, b4, s4⟩ := Is.add s3 hl (by show _ < 9007199254740992; omega)
  rw [show 2559141478400 + dd * 1048576 + mm * 1024 - 524288 - (2440587 + dd) * 1048576 + ll = mm * 1024 + ll from by omega] at s4
  obtain ⟨r5, b5, s5⟩ := Is.mul s4 day_is (by show _ < 9007199254740992; omega)
  obtain ⟨s6, n6⟩ := Is.floor s5 (by show _ < 4503599627370496; omega)
  rw [show (mm * 1024 + ll) * 86400 / 1048576 = (mm * 1024 + ll) * 675 / 8192 from by omega] at s6
  generalize h6 : FloatKind.f64.encode ((FloatKind.f64.decode r5).integral .down) = r6 at s6
  obtain ⟨r7, b7, s7⟩ := Is.sub s5 s6 (by show _ < 9007199254740992; omega)
  rw [show (mm * 1024 + ll) * 86400 - (mm * 1024 + ll) * 675 / 8192 * 1048576 = (mm * 1024 + ll) * 675 % 8192 * 128 from by omega] at s7
  have i2 := Is.int s2 (by omega) (by omega)
  have i6 := Is.int s6 (by omega) (by omega)
  have a1 : ∀ t w, (binOp .sub t (.float .f64 jd) (.float .f64 4602678819172646912)).run Yba.prog w = .ok (.float .f64 r1) w := fun t w => run_float_arith w .sub t .f64 _ _ _ b1
  have a3 : ∀ t w, (binOp .sub t (.float .f64 r1) (.float .f64 r2)).run Yba.prog w = .ok (.float .f64 r3) w := fun t w => run_float_arith w .sub t .f64 _ _ _ b3
  have a4 : ∀ t w, (binOp .add t (.float .f64 r3) (.float .f64 low)).run Yba.prog w = .ok (.float .f64 r4) w := fun t w => run_float_arith w .add t .f64 _ _ _ b4
  have a5 : ∀ t w, (binOp .mul t (.float .f64 r4) (.float .f64 4680673776000565248)).run Yba.prog w = .ok (.float .f64 r5) w := fun t w => run_float_arith w .mul t .f64 _ _ _ b5
  have a7 : ∀ t w, (binOp .sub t (.float .f64 r5) (.float .f64 r6)).run Yba.prog w = .ok (.float .f64 r7) w := fun t w => run_float_arith w .sub t .f64 _ _ _ b7
  have c2 : ∀ w, (convert 24 2 (.float .f64 r2)).run Yba.prog w = .ok (.int .i64 (2440587 + dd)) w := fun w => run_convert_float_int w 24 2 .f64 .i64 _ _ (by rw [Yba.underlying24]; rfl) Yba.underlying2 i2
  have c6 : ∀ w, (convert 24 2 (.float .f64 r6)).run Yba.prog w = .ok (.int .i64 ((mm * 1024 + ll) * 675 / 8192)) w := fun w => run_convert_float_int w 24 2 .f64 .i64 _ _ (by rw [Yba.underlying24]; rfl) Yba.underlying2 i6
  have f2 := floor_any r1 r2 h2 n2
  have f6 := floor_any r5 r6 h6 n6
  clear i2 i6 b1 b3 b4 b5 b7 s1 s2 s3 s4 s5 s6 hj hl h2 h6 n2 n6
  go_enter Yba.func5, Yba.ntmps5
  go_wp2_with (simp only [a1, a3, a4, a5, a7, c2, c6])
  refine (f2 _).mono ?_
  rintro e w' ⟨rfl, rfl⟩
  go_wp2_with (simp only [a1, a3, a4, a5, a7, c2, c6])
  refine (f6 _).mono ?_
  rintro e w' ⟨rfl, rfl⟩
  go_wp2_with (simp only [a1, a3, a4, a5, a7, c2, c6])
  go_ret2
  exact ⟨⟨r7, by rw [show 2440587 + dd - 2440587 = dd from by omega]; rfl, s7⟩, rfl⟩

theorem q1024 : Ieee.double.read 4652218415073722368 = .number false 4503599627370496 (((10 : Nat) : Int) - 52) := by decide
theorem q20 : Ieee.double.read 4697254411347427328 = .number false 4503599627370496 (((20 : Nat) : Int) - 52) := by decide
theorem q13 : Ieee.double.read 4665729213955833856 = .number false 4503599627370496 (((13 : Nat) : Int) - 52) := by decide

theorem tmod_abs (a b : Int) (hb : 0 < b) : -b < a.tmod b ∧ a.tmod b < b ∧ (0 ≤ a → 0 ≤ a.tmod b) := by
  refine ⟨?_, Int.tmod_lt_of_pos a hb, fun h => Int.tmod_nonneg b h⟩
  have := Int.lt_tmod_of_pos a hb
  omega

theorem law_any (a0 a1 a2 : Int) (h1 : 0 ≤ a1) (w : World) :
    Calls Yba.prog 3 #[.int .i32 a0, .int .u16 a1, .int .i16 a2] w fun e w' => e = .returned (.bool true) ∧ w' = w := by
  obtain ⟨d0, d1, -⟩ := tmod_abs a0 1000000 (by omega)
  obtain ⟨-, m1, m0⟩ := tmod_abs a1 1024 (by omega)
  obtain ⟨l0, l1, -⟩ := tmod_abs a2 1024 (by omega)
  have m0 := m0 h1
  generalize hdd : a0.tmod 1000000 = dd at d0 d1
  generalize hmm : a1.tmod 1024 = mm at m0 m1
  generalize hll : a2.tmod 1024 = ll at l0 l1
  obtain ⟨r1, b1, s1⟩ := Is.add epoch_is (Is.ofInt dd (by omega)) (by show _ < 9007199254740992; omega)
  obtain ⟨r2, b2, s2⟩ := Is.div (Is.ofInt mm (by omega)) q1024 (by omega) (W := mm * 1024) (by show _ = mm * 1024 * 1024; omega) (by show _ < 9007199254740992; omega)
  obtain ⟨r3, b3, s3⟩ := Is.add s1 s2 (by show _ < 9007199254740992; omega)
  obtain ⟨r4, b4, s4⟩ := Is.div (Is.ofInt ll (by omega)) q20 (by omega) (W := ll) (by show _ = ll * 1048576; omega) (by show _ < 9007199254740992; omega)
  have hu := unix_any r3 r4 dd mm ll s3 s4 d0 d1 m0 m1 l0 l1
  have a1' : ∀ t w, (binOp .add t (.float .f64 4702495533095190528) (.float .f64 (floatOfInt .f64 dd))).run Yba.prog w = .ok (.float .f64 r1) w := fun t w => run_float_arith w .add t .f64 _ _ _ b1
  have a2' : ∀ t w, (binOp .quo t (.float .f64 (floatOfInt .f64 mm)) (.float .f64 4652218415073722368)).run Yba.prog w = .ok (.float .f64 r2) w := fun t w => run_float_arith w .quo t .f64 _ _ _ b2
  have a3' : ∀ t w, (binOp .add t (.float .f64 r1) (.float .f64 r2)).run Yba.prog w = .ok (.float .f64 r3) w := fun t w => run_float_arith w .add t .f64 _ _ _ b3
  have a4' : ∀ t w, (binOp .quo t (.float .f64 (floatOfInt .f64 ll)) (.float .f64 4697254411347427328)).run Yba.prog w = .ok (.float .f64 r4) w := fun t w => run_float_arith w .quo t .f64 _ _ _ b4
  generalize hN : (mm * 1024 + ll) * 675 = N at hu
  have n0 : -691200 < N := by omega
  have n1 : N < 707788800 := by omega
  obtain ⟨r5, b5, s5⟩ := Is.div (Is.ofInt (N % 8192) (by omega)) q13 (by omega) (W := N % 8192 * 128) (by show _ = N % 8192 * 128 * 8192; omega) (by show _ < 9007199254740992; omega)
  have a5' : ∀ t w, (binOp .quo t (.float .f64 (floatOfInt .f64 (N % 8192))) (.float .f64 4665729213955833856)).run Yba.prog w = .ok (.float .f64 r5) w := fun t w => run_float_arith w .quo t .f64 _ _ _ b5
  clear b1 b2 b3 b4 b5 s1 s2 s3 s4
  go_enter Yba.func3, Yba.ntmps3
  go_wp2_with (simp only [a1', a2', a3', a4', a5', hdd, hmm, hll])
  refine (hu _).mono ?_
  rintro e w' ⟨⟨f, rfl, hf⟩, rfl⟩
  have heq := Is.eq hf s5
  clear hu hf s5
  have t0 := Int.mul_tdiv_add_tmod N 8192
  obtain ⟨t1, t2, -⟩ := tmod_abs N 8192 (by omega)
  generalize hq : N.tdiv 8192 = q at t0
  generalize hr : N.tmod 8192 = r at t0 t1 t2
  by_cases hneg : r < 0
  · have hq' : q - 1 = N / 8192 := by omega
    have hr' : r + 8192 = N % 8192 := by omega
    have hdec : decide (r < 0) = true := by simp [hneg]
    go_wp2_with (simp only [a1', a2', a3', a4', a5', hdd, hmm, hll, hN, hq, hr, hq', hr'])
    go_ret
    exact ⟨rfl, rfl⟩
  · have hq' : q = N / 8192 := by omega
    have hr' : r = N % 8192 := by omega
    have hdec : decide (r < 0) = false := by simp [hneg]
    go_wp2_with (simp only [a1', a2', a3', a4', a5', hdd, hmm, hll, hN, hq, hr, hq', hr'])
    go_ret
    exact ⟨rfl, rfl⟩

end Go.Proofs.Ybulkaalo.Day
