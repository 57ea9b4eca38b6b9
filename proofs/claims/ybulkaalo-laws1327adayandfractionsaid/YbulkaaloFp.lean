/-
  LawS1327ADayAndFraction: EXACT FLOATS. A double that stands for V / 2 ^ 20, |V| < 2 ^ 53: sums, differences, products by a whole number, quotients by a power of two, the floor, the whole number, the comparison.
-/
import Derived.Laws.FloatArith
namespace Go.Proofs.Ybulkaalo.Fp
open Ieee

/-- How deep the fixed point lies. -/
def D : Nat := 3980
theorem hD : D = 3980 := rfl

theorem sw : double.signWeight = 9223372036854775808 := by decide
theorem bn : double.binade = 4503599627370496 := by decide
theorem lp : double.leastPlace = -1074 := by decide
theorem ir : double.infRung = 9218868437227405312 := by decide

theorem read_word (neg : Bool) (r : Nat) (h : r < 9218868437227405312) : double.read (double.word neg r) =
    if r < 4503599627370496 then .number neg r (-1074) else .number neg (4503599627370496 + r % 4503599627370496) (-1074 + ((r / 4503599627370496 - 1 : Nat) : Int)) := by
  have h1 : (double.word neg r / 9223372036854775808 % 2 == 1) = neg := by
    unfold Format.word
    rw [sw]
    cases neg
    · rw [if_neg (by simp)]; simp; omega
    · rw [if_pos rfl]; simp; omega
  have h2 : double.word neg r % 9223372036854775808 = r := by
    unfold Format.word
    rw [sw]
    cases neg
    · rw [if_neg (by simp)]; omega
    · rw [if_pos rfl]; omega
  unfold Format.read
  rw [sw, bn, lp, ir]
  dsimp only
  rw [h1, h2]
  by_cases hb : r < 4503599627370496
  · rw [if_pos hb, if_pos hb]
  · rw [if_neg hb, if_neg hb, if_pos h]

theorem cut_gap (n drop : Nat) : n / (1 <<< min drop (n.log2 + 2)) = n / 2 ^ drop ∧ n % (1 <<< min drop (n.log2 + 2)) = n % 2 ^ drop := by
  rw [Nat.one_shiftLeft]
  by_cases h : drop ≤ n.log2 + 2
  · rw [Nat.min_eq_left h]; exact ⟨rfl, rfl⟩
  · rw [Nat.min_eq_right (by omega)]
    have h1 : n < 2 ^ (n.log2 + 1) := Nat.lt_log2_self
    have h2 : 2 ^ (n.log2 + 1) ≤ 2 ^ (n.log2 + 2) := Nat.pow_le_pow_right (by omega) (by omega)
    have h3 : 2 ^ (n.log2 + 2) ≤ 2 ^ drop := Nat.pow_le_pow_right (by omega) (by omega)
    rw [Nat.div_eq_of_lt (by omega), Nat.div_eq_of_lt (by omega), Nat.mod_eq_of_lt (by omega), Nat.mod_eq_of_lt (by omega)]
    exact ⟨rfl, rfl⟩

theorem cut_even (neg : Bool) (q drop : Nat) : Toward.even.cut neg (q * 2 ^ drop) drop = q := by
  unfold Toward.cut
  dsimp only
  rw [(cut_gap _ _).1, (cut_gap _ _).2]
  have hp : 0 < 2 ^ drop := Nat.two_pow_pos _
  rw [Nat.mul_div_cancel _ hp, Nat.mul_mod_left]
  have hg : (1 <<< min drop ((q * 2 ^ drop).log2 + 2) == 2 * 0) = false := by
    rw [Nat.one_shiftLeft]
    have := Nat.two_pow_pos (min drop ((q * 2 ^ drop).log2 + 2))
    simp
  rw [hg]
  simp

theorem cut_down (neg : Bool) (n drop : Nat) : Toward.down.cut neg n drop = n / 2 ^ drop + (neg && n % 2 ^ drop != 0).toNat := by
  unfold Toward.cut
  dsimp only
  rw [(cut_gap _ _).1, (cut_gap _ _).2]

theorem cut_zero (neg : Bool) (n drop : Nat) : Toward.zero.cut neg n drop = n / 2 ^ drop := by
  unfold Toward.cut
  dsimp only
  rw [(cut_gap _ _).1]
  simp

/-- A number that the format has is written as itself. -/
theorem read_nearest (neg : Bool) (mag : Nat) (place : Int) (k T : Nat) (hm : 0 < mag) (hp : -4000 ≤ place) (hk : k < 2 ^ 53) (hT : 2926 ≤ T) (hT' : T ≤ 4900)
    (h : mag * 2 ^ (place + 20 + D).toNat = k * 2 ^ T) :
    ∃ m p, double.read (double.nearest neg mag place) = .number neg m p ∧ -1074 ≤ p ∧ p ≤ 971 ∧ m < 2 ^ 53 ∧ m * 2 ^ (p + 20 + D).toNat = mag * 2 ^ (place + 20 + D).toNat := by
  have hDe := hD
  have hk0 : k ≠ 0 := by
    rintro rfl
    rw [Nat.zero_mul] at h
    have := Nat.mul_pos hm (Nat.two_pow_pos (place + 20 + D).toNat)
    omega
  have hm0 : mag ≠ 0 := by omega
  generalize hL : mag.log2 = L
  generalize hK : k.log2 = K
  generalize hP : (place + 20 + D).toNat = P at h
  have l1 : 2 ^ L ≤ mag := by rw [← hL]; exact Nat.log2_self_le hm0
  have l2 : mag < 2 ^ (L + 1) := by rw [← hL]; exact Nat.lt_log2_self
  have k1 : 2 ^ K ≤ k := by rw [← hK]; exact Nat.log2_self_le hk0
  have k2 : k < 2 ^ (K + 1) := by rw [← hK]; exact Nat.lt_log2_self
  have hK52 : K ≤ 52 := by
    have : 2 ^ K < 2 ^ 53 := Nat.lt_of_le_of_lt k1 hk
    have := (Nat.pow_lt_pow_iff_right (by omega : 1 < 2)).1 this
    omega
  have hLK : L + P = K + T := by
    have a1 : 2 ^ (L + P) ≤ mag * 2 ^ P := by rw [Nat.pow_add]; exact Nat.mul_le_mul_right _ l1
    have a2 : mag * 2 ^ P < 2 ^ (L + 1 + P) := by rw [Nat.pow_add]; exact Nat.mul_lt_mul_of_pos_right l2 (Nat.two_pow_pos _)
    have a3 : 2 ^ (K + T) ≤ k * 2 ^ T := by rw [Nat.pow_add]; exact Nat.mul_le_mul_right _ k1
    have a4 : k * 2 ^ T < 2 ^ (K + 1 + T) := by rw [Nat.pow_add]; exact Nat.mul_lt_mul_of_pos_right k2 (Nat.two_pow_pos _)
    rw [h] at a1 a2
    have b1 := (Nat.pow_lt_pow_iff_right (by omega : 1 < 2)).1 (Nat.lt_of_le_of_lt a1 a4)
    have b2 := (Nat.pow_lt_pow_iff_right (by omega : 1 < 2)).1 (Nat.lt_of_le_of_lt a3 a2)
    omega
  generalize hla : max (place + L - 52) (-1074) = last
  have hl1 : -1074 ≤ last := by omega
  have hl2 : last + 20 + D ≤ T := by omega
  -- the digits that are kept
  have hkeep : mag * 2 ^ (place - last).toNat = (k * 2 ^ (T - (last + 20 + D).toNat)) * 2 ^ (last - place).toNat := by
    by_cases hle : last ≤ place
    · have e1 : P = (place - last).toNat + (last + 20 + D).toNat := by omega
      have e2 : T = (T - (last + 20 + D).toNat) + (last + 20 + D).toNat := by omega
      have e3 : (last - place).toNat = 0 := by omega
      rw [e3, Nat.pow_zero, Nat.mul_one]
      rw [e1, e2, Nat.pow_add, Nat.pow_add, ← Nat.mul_assoc, ← Nat.mul_assoc] at h
      have := Nat.eq_of_mul_eq_mul_right (Nat.two_pow_pos _) h
      rw [this]
    · have e3 : (place - last).toNat = 0 := by omega
      have e2 : T = (T - (last + 20 + D).toNat) + (last - place).toNat + P := by omega
      rw [e3, Nat.pow_zero, Nat.mul_one]
      rw [e2, Nat.pow_add, ← Nat.mul_assoc] at h
      have := Nat.eq_of_mul_eq_mul_right (Nat.two_pow_pos _) h
      rw [this, Nat.pow_add, ← Nat.mul_assoc]
  generalize hq : k * 2 ^ (T - (last + 20 + D).toNat) = q at hkeep
  have q1 : q < 2 ^ 53 := by
    rw [← hq]
    calc k * 2 ^ (T - (last + 20 + D).toNat) < 2 ^ (K + 1) * 2 ^ (T - (last + 20 + D).toNat) := Nat.mul_lt_mul_of_pos_right k2 (Nat.two_pow_pos _)
      _ = 2 ^ (K + 1 + (T - (last + 20 + D).toNat)) := (Nat.pow_add _ _ _).symm
      _ ≤ 2 ^ 53 := Nat.pow_le_pow_right (by omega) (by omega)
  have q2 : -1074 < last → 2 ^ 52 ≤ q := by
    intro hlt
    rw [← hq]
    calc 2 ^ 52 = 2 ^ (K + (T - (last + 20 + D).toNat)) := by congr 1; omega
      _ = 2 ^ K * 2 ^ (T - (last + 20 + D).toNat) := by rw [Nat.pow_add]
      _ ≤ k * 2 ^ (T - (last + 20 + D).toNat) := Nat.mul_le_mul_right _ k1
  have hl3 : last ≤ 900 := by omega
  have hval : q * 2 ^ (last + 20 + D).toNat = mag * 2 ^ P := by
    rw [h, ← hq, Nat.mul_assoc, ← Nat.pow_add]
    congr 2
    omega
  refine ⟨q, last, ?_, hl1, by omega, q1, hval⟩
  have q1' : q < 9007199254740992 := q1
  have q2' : -1074 < last → 4503599627370496 ≤ q := q2
  unfold Format.nearest
  rw [if_neg hm0]
  dsimp only
  rw [show (double.fractionBits : Int) = 52 from rfl, lp, hL, hla, Nat.shiftLeft_eq, hkeep, cut_even, bn, ir]
  have hr : (last - -1074).toNat * 4503599627370496 + q < 9218868437227405312 := by omega
  rw [Nat.min_eq_left (by omega), read_word _ _ hr]
  by_cases hlow : (last - -1074).toNat * 4503599627370496 + q < 4503599627370496
  · rw [if_pos hlow]
    have : last = -1074 := by omega
    subst this
    simp
  · rw [if_neg hlow]
    have hq3 : 4503599627370496 ≤ q := by omega
    congr 1 <;> omega

/-- x stands for V / 2 ^ 20. -/
def Is (x : Nat) (V : Int) : Prop :=
  ∃ s m p, double.read x = .number s m p ∧ -1074 ≤ p ∧ p ≤ 971 ∧ m < 2 ^ 53 ∧ signed s m (p + 20 + D).toNat = V * ((2 ^ D : Nat) : Int)

theorem signed_up (s : Bool) (m a b : Nat) : signed s m (a + b) = signed s m a * ((2 ^ b : Nat) : Int) := by
  unfold signed
  rw [Nat.shiftLeft_eq, Nat.shiftLeft_eq, Nat.pow_add, ← Nat.mul_assoc]
  cases s <;> simp [Int.neg_mul]

theorem up_pos (b : Nat) : ((2 ^ b : Nat) : Int) ≠ 0 := by
  have := Nat.two_pow_pos b
  omega

theorem signed_abs (s : Bool) (m a : Nat) : (signed s m a).natAbs = m * 2 ^ a := by
  unfold signed
  rw [Nat.shiftLeft_eq]
  cases s
  · exact Int.natAbs_natCast _
  · exact (Int.natAbs_neg _).trans (Int.natAbs_natCast _)

theorem Is.write {neg : Bool} {mag : Nat} {place V : Int} (hp : -4000 ≤ place) (hV : V.natAbs < 2 ^ 53) (h : signed neg mag (place + 20 + D).toNat = V * ((2 ^ D : Nat) : Int)) : Is (double.nearest neg mag place) V := by
  have hDe := hD
  by_cases hm : mag = 0
  · subst hm
    refine ⟨neg, 0, -1074, ?_, by omega, by omega, by omega, ?_⟩
    · unfold Format.nearest
      rw [if_pos rfl, read_word _ _ (by omega)]
      rfl
    · rw [← h]
      unfold signed
      rw [Nat.shiftLeft_eq, Nat.shiftLeft_eq, Nat.zero_mul, Nat.zero_mul]
  · have ha := congrArg Int.natAbs h
    rw [signed_abs, Int.natAbs_mul, Int.natAbs_natCast] at ha
    obtain ⟨m, p, h1, h2, h3, h4, h5⟩ := read_nearest neg mag place V.natAbs D (by omega) hp hV (by omega) (by omega) ha
    refine ⟨neg, m, p, h1, h2, h3, h4, ?_⟩
    rw [← h]
    unfold signed
    rw [Nat.shiftLeft_eq, Nat.shiftLeft_eq, h5]

theorem signed_total (t : Int) (b : Bool) (a : Nat) : signed (if t = 0 then b else decide (t < 0)) t.natAbs a = t * ((2 ^ a : Nat) : Int) := by
  unfold signed
  rw [Nat.shiftLeft_eq]
  by_cases h0 : t = 0
  · subst h0; simp
  · rw [if_neg h0]
    by_cases hn : t < 0
    · rw [if_pos (by simpa using hn)]
      obtain ⟨k, rfl⟩ : ∃ k : Nat, t = -(k : Int) := ⟨t.natAbs, by omega⟩
      simp [Int.neg_mul]
    · rw [if_neg (by simpa using hn)]
      obtain ⟨k, rfl⟩ : ∃ k : Nat, t = (k : Int) := ⟨t.natAbs, by omega⟩
      simp

theorem sum_is {d e : Datum} {s t : Bool} {m n : Nat} {i j V W : Int} (hd : d = .number s m i) (he : e = .number t n j) (hi : -1074 ≤ i) (hj : -1074 ≤ j)
    (hv : signed s m (i + 20 + D).toNat = V * ((2 ^ D : Nat) : Int)) (hw : signed t n (j + 20 + D).toNat = W * ((2 ^ D : Nat) : Int)) (hb : (V + W).natAbs < 2 ^ 53) :
    ∃ r, (d.sum e).map double.write = some r ∧ Is r (V + W) := by
  have hDe := hD
  subst hd he
  refine ⟨_, rfl, ?_⟩
  refine Is.write (by omega) hb ?_
  rw [signed_total, Int.add_mul, Int.add_mul, ← signed_up, ← signed_up, ← hv, ← hw]
  congr 2 <;> omega

theorem Is.add {x y : Nat} {V W : Int} (hx : Is x V) (hy : Is y W) (hb : (V + W).natAbs < 2 ^ 53) : ∃ r, floatBits .add .f64 x y = some r ∧ Is r (V + W) := by
  obtain ⟨s, m, i, h1, h2, -, -, h5⟩ := hx
  obtain ⟨t, n, j, g1, g2, -, -, g5⟩ := hy
  exact sum_is h1 g1 h2 g2 h5 g5 hb

theorem Is.sub {x y : Nat} {V W : Int} (hx : Is x V) (hy : Is y W) (hb : (V - W).natAbs < 2 ^ 53) : ∃ r, floatBits .sub .f64 x y = some r ∧ Is r (V - W) := by
  obtain ⟨s, m, i, h1, h2, -, -, h5⟩ := hx
  obtain ⟨t, n, j, g1, g2, -, -, g5⟩ := hy
  have g5' : signed (!t) n (j + 20 + D).toNat = (-W) * ((2 ^ D : Nat) : Int) := by
    rw [Int.neg_mul, ← g5]
    unfold signed
    cases t <;> simp
  have g1' : (double.read y).opposite = .number (!t) n j := by rw [g1]; rfl
  have := sum_is h1 g1' h2 g2 h5 g5' (by omega)
  rw [show V + -W = V - W from by omega] at this
  exact this

theorem signed_mul (s t : Bool) (m n a b : Nat) : signed s m a * signed t n b = signed (s ^^ t) (m * n) (a + b) := by
  unfold signed
  rw [Nat.shiftLeft_eq, Nat.shiftLeft_eq, Nat.shiftLeft_eq, Nat.pow_add]
  have e : m * n * (2 ^ a * 2 ^ b) = (m * 2 ^ a) * (n * 2 ^ b) := by
    rw [Nat.mul_assoc, Nat.mul_assoc]
    congr 1
    rw [← Nat.mul_assoc, Nat.mul_comm n, Nat.mul_assoc]
  rw [e]
  cases s <;> cases t <;> simp [Int.neg_mul, Int.mul_neg]

theorem Is.mul {x y : Nat} {V C : Int} (hx : Is x V) (hy : Is y (C * 2 ^ 20)) (hb : (V * C).natAbs < 2 ^ 53) : ∃ r, floatBits .mul .f64 x y = some r ∧ Is r (V * C) := by
  have hDe := hD
  obtain ⟨s, m, i, h1, h2, -, -, h5⟩ := hx
  obtain ⟨t, n, j, g1, g2, -, -, g5⟩ := hy
  refine ⟨double.nearest (s ^^ t) (m * n) (i + j), ?_, ?_⟩
  · show ((double.read x).product (double.read y)).map double.write = _
    rw [h1, g1]
    rfl
  · refine Is.write (by omega) hb ?_
    have hh : signed (s ^^ t) (m * n) ((i + j + 20 + D).toNat + (20 + D)) = V * C * ((2 ^ D : Nat) : Int) * ((2 ^ (20 + D) : Nat) : Int) := by
      have := signed_mul s t m n (i + 20 + D).toNat (j + 20 + D).toNat
      rw [show (i + 20 + D).toNat + (j + 20 + D).toNat = (i + j + 20 + D).toNat + (20 + D) from by omega] at this
      rw [← this, h5, g5, Nat.pow_add, Int.natCast_mul]
      rw [show ((2 ^ 20 : Nat) : Int) = 2 ^ 20 from by decide]
      simp only [Int.mul_assoc, Int.mul_comm, Int.mul_left_comm]
    rw [signed_up] at hh
    exact Int.eq_of_mul_eq_mul_right (up_pos _) hh

theorem signed_mag (s : Bool) (m a b : Nat) : signed s (m * 2 ^ a) b = signed s m (a + b) := by
  unfold signed
  rw [Nat.shiftLeft_eq, Nat.shiftLeft_eq, Nat.pow_add, Nat.mul_assoc]

/-- A quotient by 2 ^ c. -/
theorem Is.div {x y : Nat} {V W : Int} {c : Nat} (hx : Is x V) (hy : double.read y = .number false 4503599627370496 ((c : Int) - 52)) (hc : c ≤ 100) (hV : V = W * ((2 ^ c : Nat) : Int)) (hb : W.natAbs < 2 ^ 53) :
    ∃ r, floatBits .quo .f64 x y = some r ∧ Is r W := by
  have hDe := hD
  obtain ⟨s, m, i, h1, h2, h3, h4, h5⟩ := hx
  have hlog : m.log2 ≤ 52 := by
    by_cases h0 : m = 0
    · subst h0; decide
    · have : m.log2 < 53 := (Nat.log2_lt h0).2 h4
      omega
  have hln : Nat.log2 4503599627370496 = 52 := by decide
  generalize hmo : 54 + 52 - m.log2 = more
  have hmore : 54 ≤ more := by omega
  have hmore' : more ≤ 106 := by omega
  refine ⟨double.nearest s (m * 2 ^ (more - 51)) (i - ((c : Int) - 52) - more - 1), ?_, ?_⟩
  · show ((double.read x).quotient 54 (double.read y)).map double.write = _
    rw [h1, hy]
    unfold Datum.quotient
    dsimp only
    rw [if_neg (by decide), hln, hmo, Nat.shiftLeft_eq]
    have e : m * 2 ^ more = (m * 2 ^ (more - 52)) * 4503599627370496 := by
      rw [Nat.mul_assoc, show (4503599627370496 : Nat) = 2 ^ 52 from by decide, ← Nat.pow_add]
      congr 2; omega
    rw [e, Nat.mul_div_cancel _ (by omega), Nat.mul_mod_left]
    have e2 : 2 * (m * 2 ^ (more - 52)) = m * 2 ^ (more - 51) := by
      rw [show more - 51 = (more - 52) + 1 from by omega, Nat.pow_succ]
      rw [Nat.mul_comm 2, Nat.mul_assoc]
    rw [e2]
    simp [Format.write]
  · refine Is.write (by omega) hb ?_
    rw [signed_mag]
    have hh : signed s m ((more - 51 + (i - ((c : Int) - 52) - more - 1 + 20 + D).toNat) + c) = W * ((2 ^ D : Nat) : Int) * ((2 ^ c : Nat) : Int) := by
      rw [show (more - 51 + (i - ((c : Int) - 52) - more - 1 + 20 + D).toNat) + c = (i + 20 + D).toNat from by omega, h5, hV]
      simp only [Int.mul_assoc, Int.mul_comm, Int.mul_left_comm]
    rw [signed_up] at hh
    exact Int.eq_of_mul_eq_mul_right (up_pos _) hh

/-- N / 2 ^ drop, of a number that stands for V / 2 ^ 20. -/
theorem Is.parts {s : Bool} {m : Nat} {i V : Int} (hi : -1074 ≤ i) (hi' : i ≤ 971) (h : signed s m (i + 20 + D).toNat = V * ((2 ^ D : Nat) : Int)) :
    (m <<< i.toNat) / 2 ^ (-i).toNat = V.natAbs / 1048576 ∧ (((m <<< i.toNat) % 2 ^ (-i).toNat = 0) ↔ V.natAbs % 1048576 = 0) ∧ (V = if s then -(V.natAbs : Int) else (V.natAbs : Int)) := by
  have hDe := hD
  have ha := congrArg Int.natAbs h
  rw [signed_abs, Int.natAbs_mul, Int.natAbs_natCast] at ha
  have hN : (m <<< i.toNat) * 1048576 = V.natAbs * 2 ^ (-i).toNat := by
    rw [Nat.shiftLeft_eq, show (1048576 : Nat) = 2 ^ 20 from by decide]
    have h2 : m * 2 ^ i.toNat * 2 ^ 20 * 2 ^ D = V.natAbs * 2 ^ (-i).toNat * 2 ^ D := by
      rw [Nat.mul_assoc m, ← Nat.pow_add, Nat.mul_assoc m, ← Nat.pow_add, show i.toNat + 20 + D = (i + 20 + D).toNat + (-i).toNat from by omega, Nat.pow_add, ← Nat.mul_assoc, ha]
      rw [Nat.mul_assoc, Nat.mul_comm (2 ^ D), ← Nat.mul_assoc]
    exact Nat.eq_of_mul_eq_mul_right (Nat.two_pow_pos _) h2
  have hp := Nat.two_pow_pos (-i).toNat
  refine ⟨?_, ?_, ?_⟩
  · rw [← Nat.mul_div_mul_right _ _ (by omega : 0 < 1048576), hN, Nat.mul_comm (2 ^ (-i).toNat), Nat.mul_div_mul_right _ _ hp]
  · have e := Nat.mul_mod_mul_right 1048576 (m <<< i.toNat) (2 ^ (-i).toNat)
    rw [hN, Nat.mul_comm (2 ^ (-i).toNat), Nat.mul_mod_mul_right] at e
    constructor
    · intro h0
      rw [h0, Nat.zero_mul] at e
      rcases Nat.mul_eq_zero.1 e with h1 | h1
      · exact h1
      · omega
    · intro h0
      rw [h0, Nat.zero_mul] at e
      rcases Nat.mul_eq_zero.1 e.symm with h1 | h1
      · exact h1
      · omega
  · have hpos : (0 : Int) < ((2 ^ D : Nat) : Int) := by have := Nat.two_pow_pos D; omega
    cases s
    · rw [if_neg (by simp)]
      have : 0 ≤ V * ((2 ^ D : Nat) : Int) := by rw [← h]; exact Int.natCast_nonneg _
      have := Int.nonneg_of_mul_nonneg_left this hpos
      omega
    · rw [if_pos rfl]
      have h0 : V * ((2 ^ D : Nat) : Int) ≤ 0 := by
        rw [← h]
        have : (0 : Int) ≤ ((m <<< (i + 20 + D).toNat : Nat) : Int) := Int.natCast_nonneg _
        show -((m <<< (i + 20 + D).toNat : Nat) : Int) ≤ 0
        omega
      have : 0 ≤ (-V) * ((2 ^ D : Nat) : Int) := by rw [Int.neg_mul]; omega
      have := Int.nonneg_of_mul_nonneg_left this hpos
      omega

/-- The floor. -/
theorem Is.floor {x : Nat} {V : Int} (hx : Is x V) (hb : V.natAbs < 2 ^ 52) : Is (FloatKind.f64.encode ((FloatKind.f64.decode x).integral .down)) (V / 1048576 * 1048576) ∧ ∀ s t, FloatKind.f64.decode x ≠ .nan s t := by
  have hDe := hD
  obtain ⟨s, m, i, h1, h2, h3, h4, h5⟩ := hx
  obtain ⟨p1, p2, p3⟩ := Is.parts h2 h3 h5
  have hdec : FloatKind.f64.decode x = .number s m i := h1
  rw [hdec]
  refine ⟨?_, fun _ _ h => by cases h⟩
  have hbb : V.natAbs < 4503599627370496 := hb
  refine Is.write (by omega) ?_ ?_
  · show _ < 9007199254740992
    omega
  · rw [cut_down, p1]
    have hw : (V / 1048576 * 1048576) = (if s then -(((V.natAbs / 1048576 + (s && (m <<< i.toNat) % 2 ^ (-i).toNat != 0).toNat : Nat)) : Int) else ((V.natAbs / 1048576 + (s && (m <<< i.toNat) % 2 ^ (-i).toNat != 0).toNat : Nat) : Int)) * 1048576 := by
      cases s
      · simp at p3 ⊢; omega
      · rw [if_pos rfl] at p3 ⊢
        by_cases hr : (m <<< i.toNat) % 2 ^ (-i).toNat = 0
        · have := p2.1 hr
          simp [hr]; omega
        · have : ¬ V.natAbs % 1048576 = 0 := fun h => hr (p2.2 h)
          have hne : ((m <<< i.toNat) % 2 ^ (-i).toNat != 0) = true := by rw [bne_iff_ne]; exact hr
          rw [hne]
          simp; omega
    rw [hw]
    generalize V.natAbs / 1048576 + (s && (m <<< i.toNat) % 2 ^ (-i).toNat != 0).toNat = q
    rw [show ((0 : Int) + 20 + D).toNat = 20 + D from by omega]
    unfold signed
    rw [Nat.shiftLeft_eq, Nat.pow_add, show (2 ^ 20 : Nat) = 1048576 from by decide]
    cases s <;> simp [Int.neg_mul, Int.mul_assoc]

/-- The whole number that x stands for. -/
theorem Is.int {x : Nat} {n : Int} (hx : Is x (n * 1048576)) (h0 : -9223372036854775808 ≤ n) (h1' : n ≤ 9223372036854775807) : floatToIntVal .f64 x .i64 = some n := by
  have hDe := hD
  obtain ⟨s, m, i, h1, h2, h3, h4, h5⟩ := hx
  obtain ⟨p1, p2, p3⟩ := Is.parts h2 h3 h5
  have hdec : FloatKind.f64.decode x = .number s m i := h1
  have e : (FloatKind.f64.decode x).toInt .zero = some n := by
    rw [hdec]
    show some (signed s (Toward.zero.cut s (m <<< i.toNat) (-i).toNat) 0) = some n
    rw [cut_zero, p1]
    congr 1
    unfold signed
    rw [Nat.shiftLeft_eq, Nat.pow_zero, Nat.mul_one]
    cases s
    · simp at p3 ⊢; omega
    · rw [if_pos rfl] at p3 ⊢; omega
  unfold floatToIntVal
  rw [e]
  dsimp only
  rw [if_pos ⟨h0, h1'⟩]

theorem Is.eq {x y : Nat} {V : Int} (hx : Is x V) (hy : Is y V) : FloatKind.f64.format.order x y = some .eq := by
  have hDe := hD
  obtain ⟨s, m, i, h1, h2, h3, h4, h5⟩ := hx
  obtain ⟨t, n, j, g1, g2, g3, g4, g5⟩ := hy
  show (double.read x).order (double.read y) = _
  rw [h1, g1]
  unfold Datum.order
  dsimp only
  have : signed s m (i - min i j).toNat = signed t n (j - min i j).toNat := by
    refine Int.eq_of_mul_eq_mul_right (up_pos (min i j + 20 + D).toNat) ?_
    rw [← signed_up, ← signed_up]
    rw [show (i - min i j).toNat + (min i j + 20 + D).toNat = (i + 20 + D).toNat from by omega, show (j - min i j).toNat + (min i j + 20 + D).toNat = (j + 20 + D).toNat from by omega, h5, g5]
  rw [this]
  simp

theorem Is.ofInt (n : Int) (hn : n.natAbs < 8589934592) : Is (floatOfInt .f64 n) (n * 1048576) := by
  have hDe := hD
  refine Is.write (by omega) (by show _ < 9007199254740992; omega) ?_
  rw [show ((0 : Int) + 20 + D).toNat = 20 + D from by omega]
  have := signed_total n (decide (n < 0)) (20 + D)
  rw [ite_self] at this
  rw [this, Nat.pow_add, Int.natCast_mul, ← Int.mul_assoc]
  rfl

end Go.Proofs.Ybulkaalo.Fp
