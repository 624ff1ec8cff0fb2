import Derived.Laws.FloatArith
namespace Go.Proofs.Qxb6605602a.Flt

/-! powers with the exponent a variable: at a great literal exponent the checker would try to reckon them -/
theorem key_gen (K L R a b c : Nat) (h : K * 2 ^ L = R * 2 ^ a) (hc : a + b = c) : K * 2 ^ (L + b) = R * 2 ^ c := by
  subst hc
  rw [Nat.pow_add, ← Nat.mul_assoc, h, Nat.mul_assoc, ← Nat.pow_add]
theorem cast_gen (r k : Nat) : ((r * 2 ^ k : Nat) : Int) = (r : Int) * 2 ^ k := by
  rw [Int.natCast_mul, Int.natCast_pow]; rfl
theorem natAbs_gen (k : Nat) : ((2 : Int) ^ k).natAbs = 2 ^ k := by
  rw [Int.natAbs_pow]; rfl
theorem pos_gen (a k : Nat) (h : 0 < a) : 0 < a * 2 ^ k := Nat.mul_pos h (Nat.two_pow_pos k)
theorem ev_gen (m k r c : Nat) (h : m * 2 ^ k = r * 2 ^ c) : m * 2 ^ (k + 26) = r * 67108864 * 2 ^ c := by
  have p26 : 67108864 = 2 ^ 26 := by decide +kernel
  rw [Nat.pow_add, ← Nat.mul_assoc, h, Nat.mul_assoc, Nat.mul_comm (2 ^ c) (2 ^ 26), ← Nat.mul_assoc, p26]

def rne (n d : Nat) : Nat := n / 2 ^ d + (decide (2 ^ d < 2 * (n % 2 ^ d)) || (2 ^ d == 2 * (n % 2 ^ d) && n / 2 ^ d % 2 == 1)).toNat

theorem cut_even (neg : Bool) (n d : Nat) : Ieee.Toward.even.cut neg n d = rne n d := by
  unfold Ieee.Toward.cut rne
  dsimp only
  by_cases h : d ≤ n.log2 + 2
  · rw [Nat.min_eq_left h, Nat.one_shiftLeft]
  · rw [Nat.min_eq_right (by omega), Nat.one_shiftLeft]
    have a : n < 2 ^ (n.log2 + 1) := Nat.lt_log2_self
    have b : 2 ^ (n.log2 + 2) = 2 * 2 ^ (n.log2 + 1) := by rw [Nat.pow_succ]; omega
    have c : 2 ^ (n.log2 + 2) ≤ 2 ^ d := Nat.pow_le_pow_right (by decide) (by omega)
    have e1 : n / 2 ^ (n.log2 + 2) = 0 := Nat.div_eq_of_lt (by omega)
    have e2 : n % 2 ^ (n.log2 + 2) = n := Nat.mod_eq_of_lt (by omega)
    have e3 : n / 2 ^ d = 0 := Nat.div_eq_of_lt (by omega)
    have e4 : n % 2 ^ d = n := Nat.mod_eq_of_lt (by omega)
    rw [e1, e2, e3, e4]
    have f1 : ¬ 2 ^ (n.log2 + 2) < 2 * n := by omega
    have f2 : ¬ 2 ^ d < 2 * n := by omega
    simp [f1, f2]

theorem rne_shift (n d k : Nat) : rne (n * 2 ^ k) (d + k) = rne n d := by
  unfold rne
  have hk : 0 < 2 ^ k := Nat.two_pow_pos k
  rw [Nat.pow_add, Nat.mul_div_mul_right _ _ hk, Nat.mul_mod_mul_right]
  have e : 2 * (n % 2 ^ d * 2 ^ k) = 2 * (n % 2 ^ d) * 2 ^ k := by rw [Nat.mul_assoc]
  rw [e]
  have f1 : (2 ^ d * 2 ^ k < 2 * (n % 2 ^ d) * 2 ^ k) = (2 ^ d < 2 * (n % 2 ^ d)) := by
    rw [Nat.mul_lt_mul_right hk]
  have f2 : (2 ^ d * 2 ^ k == 2 * (n % 2 ^ d) * 2 ^ k) = (2 ^ d == 2 * (n % 2 ^ d)) := by
    rw [Bool.eq_iff_iff, beq_iff_eq, beq_iff_eq]
    exact ⟨fun h => Nat.eq_of_mul_eq_mul_right hk h, fun h => congrArg (· * 2 ^ k) h⟩
  rw [f2]
  simp only [f1]

theorem rne_exact (n d : Nat) (h : n % 2 ^ d = 0) : rne n d = n / 2 ^ d := by
  unfold rne
  rw [h]
  have := Nat.two_pow_pos d
  have e : (2 ^ d == 2 * 0) = false := by rw [beq_eq_false_iff_ne]; omega
  simp only [Nat.mul_zero, Nat.not_lt_zero, decide_false, Bool.false_or] at *
  rw [e]; simp

theorem rne_zero (n : Nat) : rne n 0 = n := by
  rw [rne_exact n 0 (by simp [Nat.mod_one])]; simp

theorem rne_ge (n d : Nat) : n / 2 ^ d ≤ rne n d := by unfold rne; omega
theorem rne_le (n d : Nat) : rne n d ≤ n / 2 ^ d + 1 := by
  unfold rne
  have := Bool.toNat_le (decide (2 ^ d < 2 * (n % 2 ^ d)) || (2 ^ d == 2 * (n % 2 ^ d) && n / 2 ^ d % 2 == 1))
  omega

theorem rne_mono (n m d : Nat) (h : n ≤ m) : rne n d ≤ rne m d := by
  have hd : n / 2 ^ d ≤ m / 2 ^ d := Nat.div_le_div_right h
  by_cases hlt : n / 2 ^ d < m / 2 ^ d
  · have := rne_le n d; have := rne_ge m d; omega
  · have he : n / 2 ^ d = m / 2 ^ d := by omega
    have a := Nat.div_add_mod n (2 ^ d)
    have b := Nat.div_add_mod m (2 ^ d)
    rw [he] at a
    have hr : n % 2 ^ d ≤ m % 2 ^ d := by omega
    unfold rne
    rw [he]
    refine Nat.add_le_add_left ?_ _
    generalize n % 2 ^ d = r at *
    generalize m % 2 ^ d = s at *
    generalize 2 ^ d = g at *
    generalize hq : (m / g % 2 == 1) = q
    by_cases h1 : g < 2 * r
    · have : g < 2 * s := by omega
      simp [h1, this]
    · by_cases h2 : g = 2 * r
      · by_cases h3 : g < 2 * s
        · simp only [h3, decide_true, Bool.true_or, Bool.toNat_true]; exact Bool.toNat_le _
        · have : g = 2 * s := by omega
          have e1 : (g == 2 * r) = true := by simp [← h2]
          have e2 : (g == 2 * s) = true := by simp [← this]
          rw [e1, e2]; simp [h1, h3]
      · have e1 : (g == 2 * r) = false := beq_eq_false_iff_ne.2 h2
        rw [e1]; simp [h1]

/-- the rounding of a whole number to 53 binary digits -/
def rnd (n : Nat) : Nat := rne n (n.log2 - 52) * 2 ^ (n.log2 - 52)

theorem rnd_exact (n : Nat) (h : n % 2 ^ (n.log2 - 52) = 0) : rnd n = n := by
  unfold rnd
  rw [rne_exact _ _ h]
  exact Nat.div_mul_cancel (Nat.dvd_of_mod_eq_zero h)

theorem rnd_small (n : Nat) (h : n < 2 ^ 53) : rnd n = n := by
  by_cases h0 : n = 0
  · subst h0; decide +kernel
  have : n.log2 < 53 := (Nat.log2_lt h0).2 h
  refine rnd_exact n ?_
  rw [show n.log2 - 52 = 0 by omega]
  simp [Nat.mod_one]

theorem rnd_ge (n : Nat) (h : n ≠ 0) : 2 ^ n.log2 ≤ rnd n := by
  by_cases hL : n.log2 ≤ 52
  · rw [rnd_small n]
    · exact Nat.log2_self_le h
    · exact (Nat.log2_lt h).1 (by omega)
  · unfold rnd
    have h1 := rne_ge n (n.log2 - 52)
    have h2 : 2 ^ 52 ≤ n / 2 ^ (n.log2 - 52) := by
      rw [Nat.le_div_iff_mul_le (Nat.two_pow_pos _), ← Nat.pow_add]
      rw [show 52 + (n.log2 - 52) = n.log2 by omega]
      exact Nat.log2_self_le h
    have e : 2 ^ n.log2 = 2 ^ 52 * 2 ^ (n.log2 - 52) := by
      rw [← Nat.pow_add, show 52 + (n.log2 - 52) = n.log2 by omega]
    rw [e]
    exact Nat.mul_le_mul_right _ (Nat.le_trans h2 h1)

theorem rnd_le (n : Nat) (h : n ≠ 0) : rnd n ≤ 2 ^ (n.log2 + 1) := by
  by_cases hL : n.log2 ≤ 52
  · rw [rnd_small n]
    · exact Nat.le_of_lt Nat.lt_log2_self
    · exact (Nat.log2_lt h).1 (by omega)
  · unfold rnd
    have h1 := rne_le n (n.log2 - 52)
    have e : 2 ^ (n.log2 + 1) = 2 ^ 53 * 2 ^ (n.log2 - 52) := by
      rw [← Nat.pow_add, show 53 + (n.log2 - 52) = n.log2 + 1 by omega]
    have h2 : n / 2 ^ (n.log2 - 52) < 2 ^ 53 := by
      rw [Nat.div_lt_iff_lt_mul (Nat.two_pow_pos _), ← e]
      exact Nat.lt_log2_self
    rw [e]
    exact Nat.mul_le_mul_right _ (by omega)

theorem rnd_mono (n m : Nat) (h : n ≤ m) : rnd n ≤ rnd m := by
  by_cases h0 : n = 0
  · subst h0; rw [rnd_small 0 (by decide)]; exact Nat.zero_le _
  have hm : m ≠ 0 := by omega
  by_cases hL : n.log2 = m.log2
  · unfold rnd
    rw [hL]
    exact Nat.mul_le_mul_right _ (rne_mono n m _ h)
  · have hlt : n.log2 < m.log2 := by
      have a : 2 ^ n.log2 ≤ m := Nat.le_trans (Nat.log2_self_le h0) h
      have := (Nat.le_log2 hm).2 a
      omega
    have a := rnd_le n h0
    have b := rnd_ge m hm
    have c : 2 ^ (n.log2 + 1) ≤ 2 ^ m.log2 := Nat.pow_le_pow_right (by decide) hlt
    omega



open Ieee (Datum)

theorem least : Ieee.double.leastPlace = -1074 := by decide +kernel
theorem binade : Ieee.double.binade = 4503599627370496 := by decide +kernel
theorem infR : Ieee.double.infRung = 9218868437227405312 := by decide +kernel
theorem signW : Ieee.double.signWeight = 9223372036854775808 := by decide +kernel
theorem fracB : Ieee.double.fractionBits = 52 := rfl

theorem read_word (neg : Bool) (r : Nat) (h1 : 4503599627370496 ≤ r) (h2 : r < 9218868437227405312) :
    Ieee.double.read (Ieee.double.word neg r) = .number neg (4503599627370496 + r % 4503599627370496) (-1074 + (r / 4503599627370496 - 1 : Nat)) := by
  unfold Ieee.Format.read Ieee.Format.word
  rw [least, binade, infR, signW]
  dsimp only
  have e1 : ((if neg then 9223372036854775808 + r else r) / 9223372036854775808 % 2 == 1) = neg := by
    cases neg
    · simp only [Bool.false_eq_true, if_false]; rw [beq_eq_false_iff_ne]; omega
    · simp only [if_true]; rw [beq_iff_eq]; omega
  have e2 : (if neg then 9223372036854775808 + r else r) % 9223372036854775808 = r := by
    cases neg
    · simp only [Bool.false_eq_true, if_false]; omega
    · simp only [if_true]; omega
  rw [e1, e2, if_neg (by omega), if_pos h2]

/-- the digits kept of a whole number: between 2^52 and 2^53 -/
def keep (n : Nat) : Nat := if n.log2 ≤ 52 then n * 2 ^ (52 - n.log2) else rne n (n.log2 - 52)

theorem keep_val (n : Nat) (h : n ≠ 0) : keep n * 2 ^ n.log2 = rnd n * 2 ^ 52 := by
  unfold keep
  split
  · rename_i hL
    rw [rnd_small n ((Nat.log2_lt h).1 (by omega)), Nat.mul_assoc, ← Nat.pow_add, show 52 - n.log2 + n.log2 = 52 by omega]
  · rename_i hL
    unfold rnd
    rw [Nat.mul_assoc, ← Nat.pow_add, show n.log2 - 52 + 52 = n.log2 by omega]

theorem keep_ge (n : Nat) (h : n ≠ 0) : 2 ^ 52 ≤ keep n := by
  refine Nat.le_of_mul_le_mul_right (c := 2 ^ n.log2) ?_ (Nat.two_pow_pos _)
  rw [keep_val n h, Nat.mul_comm]
  exact Nat.mul_le_mul_right _ (rnd_ge n h)
theorem keep_le (n : Nat) (h : n ≠ 0) : keep n ≤ 2 ^ 53 := by
  refine Nat.le_of_mul_le_mul_right (c := 2 ^ n.log2) ?_ (Nat.two_pow_pos _)
  rw [keep_val n h]
  have := Nat.mul_le_mul_right (2 ^ 52) (rnd_le n h)
  rw [← Nat.pow_add] at this
  rw [← Nat.pow_add, show 53 + n.log2 = n.log2 + 1 + 52 by omega]
  exact this

theorem nearest_eq (neg : Bool) (n : Nat) (h : n ≠ 0) (hL : n.log2 ≤ 64) :
    Ieee.double.nearest neg n 0 = Ieee.double.word neg ((n.log2 + 1022) * 4503599627370496 + keep n) := by
  unfold Ieee.Format.nearest
  rw [if_neg h, least, binade, infR, fracB]
  dsimp only
  have e0 : max (0 + (n.log2 : Int) - (52 : Nat)) (-1074) = (n.log2 : Int) - 52 := by omega
  rw [e0, cut_even, Nat.shiftLeft_eq]
  have hk := keep_le n h
  have e1 : rne (n * 2 ^ (0 - ((n.log2 : Int) - 52)).toNat) ((n.log2 : Int) - 52 - 0).toNat = keep n := by
    unfold keep
    split
    · rename_i hl
      rw [show (0 - ((n.log2 : Int) - 52)).toNat = 52 - n.log2 by omega, show ((n.log2 : Int) - 52 - 0).toNat = 0 by omega, rne_zero]
    · rename_i hl
      rw [show (0 - ((n.log2 : Int) - 52)).toNat = 0 by omega, show ((n.log2 : Int) - 52 - 0).toNat = n.log2 - 52 by omega, Nat.pow_zero, Nat.mul_one]
  rw [e1, show ((n.log2 : Int) - 52 - -1074).toNat = n.log2 + 1022 by omega, Nat.min_eq_left]
  have : (2 : Nat) ^ 53 = 9007199254740992 := by decide +kernel
  omega

/-- the exact value of a float's datum, in units of 2^-1074 -/
def Is (d : Datum) (z : Int) : Prop := ∃ s m i, d = .number s m i ∧ (-1074 : Int) ≤ i ∧ Ieee.signed s m (i + 1074).toNat = z

theorem read_nearest (neg : Bool) (n : Nat) (h : n ≠ 0) (hL : n.log2 ≤ 64) :
    ∃ m i, Ieee.double.read (Ieee.double.nearest neg n 0) = .number neg m i ∧ (-52 : Int) ≤ i ∧ m * 2 ^ (i + 1074).toNat = rnd n * 2 ^ 1074 := by
  rw [nearest_eq neg n h hL]
  have hk := keep_le n h
  have hg := keep_ge n h
  have hv := keep_val n h
  have p52 : (2 : Nat) ^ 52 = 4503599627370496 := by decide +kernel
  have p53 : (2 : Nat) ^ 53 = 9007199254740992 := by decide +kernel
  rw [p52] at hg; rw [p53] at hk
  have key : keep n * 2 ^ (n.log2 + 1022) = rnd n * 2 ^ 1074 := key_gen (keep n) n.log2 (rnd n) 52 1022 1074 hv (by decide)
  rw [read_word _ _ (by omega) (by omega)]
  generalize hK : keep n = K at *
  generalize hl : n.log2 = L at *
  by_cases hc : K = 9007199254740992
  · subst hc
    have e1 : ((L + 1022) * 4503599627370496 + 9007199254740992) % 4503599627370496 = 0 := by omega
    have e2 : ((L + 1022) * 4503599627370496 + 9007199254740992) / 4503599627370496 = L + 1024 := by omega
    refine ⟨_, _, by rw [e1, e2], by omega, ?_⟩
    rw [show ((-1074 : Int) + ((L + 1024 - 1 : Nat) : Int) + 1074).toNat = 1 + (L + 1022) by omega, Nat.pow_add, ← Nat.mul_assoc, ← key]
  · have e1 : ((L + 1022) * 4503599627370496 + K) % 4503599627370496 = K - 4503599627370496 := by omega
    have e2 : ((L + 1022) * 4503599627370496 + K) / 4503599627370496 = L + 1023 := by omega
    refine ⟨_, _, by rw [e1, e2], by omega, ?_⟩
    rw [show ((-1074 : Int) + ((L + 1023 - 1 : Nat) : Int) + 1074).toNat = L + 1022 by omega, show 4503599627370496 + (K - 4503599627370496) = K by omega, ← key]

/-- the rounded value of an integer, with its sign -/
def srnd (n : Int) : Int := if n < 0 then -(rnd n.natAbs : Int) else rnd n.natAbs

abbrev F (n : Int) : Nat := floatOfInt .f64 n

theorem F_eq (n : Int) : F n = Ieee.double.nearest (decide (n < 0)) n.natAbs 0 := rfl

def unit : Int := 2 ^ 1074

theorem unit_pos : 0 < unit := by unfold unit; exact Int.pow_pos (by decide)

theorem F_zero : F 0 = 0 := by decide +kernel

theorem log2_le (n : Int) (h1 : -18446744073709551616 ≤ n) (h2 : n ≤ 18446744073709551616) (h : n ≠ 0) : n.natAbs.log2 ≤ 64 := by
  have : n.natAbs < 2 ^ 65 := by
    have : (2 : Nat) ^ 65 = 36893488147419103232 := by decide +kernel
    omega
  have := (Nat.log2_lt (n := n.natAbs) (k := 65) (by omega)).2 this
  omega

theorem F_is (n : Int) (h1 : -18446744073709551616 ≤ n) (h2 : n ≤ 18446744073709551616) : Is (Ieee.double.read (F n)) (srnd n * unit) := by
  by_cases h : n = 0
  · subst h
    rw [F_zero]
    refine ⟨false, 0, -1074, by decide +kernel, by decide, ?_⟩
    have : srnd 0 = 0 := by unfold srnd; rw [if_neg (by decide)]; rw [rnd_small _ (by decide)]; rfl
    rw [this]; simp [Ieee.signed]
  · obtain ⟨m, i, e, hi, hv⟩ := read_nearest (decide (n < 0)) n.natAbs (by omega) (log2_le n h1 h2 h)
    refine ⟨_, _, _, (by rw [F_eq]; exact e), by omega, ?_⟩
    unfold Ieee.signed
    rw [Nat.shiftLeft_eq, hv]
    unfold srnd unit
    have e2 : ((rnd n.natAbs * 2 ^ 1074 : Nat) : Int) = (rnd n.natAbs : Int) * 2 ^ 1074 := cast_gen (rnd n.natAbs) 1074
    by_cases hn : n < 0
    · rw [if_pos hn, if_pos (by simp [hn]), e2, Int.neg_mul]
    · rw [if_neg hn, if_neg (by simp [hn]), e2]

theorem signed_shift (s : Bool) (m a k : Nat) : Ieee.signed s m (a + k) = Ieee.signed s m a * 2 ^ k := by
  unfold Ieee.signed
  have e : ((m <<< (a + k) : Nat) : Int) = (m <<< a : Nat) * 2 ^ k := by
    rw [Nat.shiftLeft_eq, Nat.shiftLeft_eq, Nat.pow_add, ← Nat.mul_assoc, Int.natCast_mul, Int.natCast_pow]; rfl
  split
  · rw [e, Int.neg_mul]
  · rw [e]

theorem compare_mul (a b c : Int) (h : 0 < c) : compare (a * c) (b * c) = compare a b := by
  rcases Int.lt_trichotomy a b with h1 | h1 | h1
  · have := Int.mul_lt_mul_of_pos_right h1 h
    rw [Int.compare_eq_lt.2 h1, Int.compare_eq_lt.2 this]
  · subst h1; simp
  · have := Int.mul_lt_mul_of_pos_right h1 h
    rw [Int.compare_eq_gt.2 h1, Int.compare_eq_gt.2 this]

theorem order_is {x y : Nat} {a b : Int} (hx : Is (Ieee.double.read x) a) (hy : Is (Ieee.double.read y) b) : Ieee.double.order x y = some (compare a b) := by
  obtain ⟨s, m, i, e, hi, rfl⟩ := hx
  obtain ⟨t, n, j, f, hj, rfl⟩ := hy
  unfold Ieee.Format.order
  rw [e, f]
  unfold Ieee.Datum.order
  dsimp only
  generalize hb : min i j = base
  have hb1 : -1074 ≤ base := by omega
  have e1 : (i + 1074).toNat = (i - base).toNat + (base + 1074).toNat := by omega
  have e2 : (j + 1074).toNat = (j - base).toNat + (base + 1074).toNat := by omega
  rw [e1, e2, signed_shift, signed_shift, compare_mul _ _ _ (Int.pow_pos (by decide))]

theorem order_F (a b : Int) (h1 : -18446744073709551616 ≤ a) (h2 : a ≤ 18446744073709551616) (h3 : -18446744073709551616 ≤ b) (h4 : b ≤ 18446744073709551616) :
    Ieee.double.order (F a) (F b) = some (compare (srnd a) (srnd b)) := by
  rw [order_is (F_is a h1 h2) (F_is b h3 h4), compare_mul _ _ _ unit_pos]

theorem srnd_mono (a b : Int) (h : a ≤ b) : srnd a ≤ srnd b := by
  unfold srnd
  by_cases ha : a < 0
  · rw [if_pos ha]
    by_cases hb : b < 0
    · rw [if_pos hb]
      have := rnd_mono b.natAbs a.natAbs (by omega)
      omega
    · rw [if_neg hb]; omega
  · rw [if_neg ha, if_neg (by omega)]
    have := rnd_mono a.natAbs b.natAbs (by omega)
    omega

theorem srnd_exact (a : Int) (h1 : -9007199254740992 ≤ a) (h2 : a ≤ 9007199254740992) : srnd a = a := by
  have p53 : (2 : Nat) ^ 53 = 9007199254740992 := by decide +kernel
  have : rnd a.natAbs = a.natAbs := by
    by_cases h : a.natAbs < 9007199254740992
    · exact rnd_small _ (by omega)
    · rw [show a.natAbs = 9007199254740992 by omega]; decide +kernel
  unfold srnd
  rw [this]
  split <;> omega

theorem srnd_top : srnd 9223372036854775808 = 9223372036854775808 := by decide +kernel
theorem srnd_bot : srnd (-9223372036854775808) = -9223372036854775808 := by decide +kernel



theorem log2_shift (n k : Nat) (h : n ≠ 0) : (n * 2 ^ k).log2 = n.log2 + k := by
  have hk := Nat.two_pow_pos k
  have h' : n * 2 ^ k ≠ 0 := Nat.mul_ne_zero h (by omega)
  rw [Nat.log2_eq_iff h']
  refine ⟨?_, ?_⟩
  · rw [Nat.pow_add]; exact Nat.mul_le_mul_right _ (Nat.log2_self_le h)
  · rw [show n.log2 + k + 1 = n.log2 + 1 + k by omega, Nat.pow_add]
    exact Nat.mul_lt_mul_of_pos_right Nat.lt_log2_self hk

/-- the nearest word depends on the value alone -/
theorem nearest_shift (f : Ieee.Format) (neg : Bool) (n k : Nat) (p : Int) : f.nearest neg (n * 2 ^ k) (p - k) = f.nearest neg n p := by
  unfold Ieee.Format.nearest
  by_cases h : n = 0
  · subst h; simp
  have hk := Nat.two_pow_pos k
  have h' : n * 2 ^ k ≠ 0 := Nat.mul_ne_zero h (by omega)
  rw [if_neg h, if_neg h']
  dsimp only
  rw [log2_shift n k h]
  have e0 : p - (k : Int) + ((n.log2 + k : Nat) : Int) - (f.fractionBits : Int) = p + n.log2 - f.fractionBits := by omega
  rw [e0]
  generalize max (p + (n.log2 : Int) - f.fractionBits) f.leastPlace = last
  rw [cut_even, cut_even, Nat.shiftLeft_eq, Nat.shiftLeft_eq]
  have key : rne (n * 2 ^ k * 2 ^ (p - ↑k - last).toNat) (last - (p - ↑k)).toNat = rne (n * 2 ^ (p - last).toNat) (last - p).toNat := by
    by_cases c1 : (k : Int) ≤ p - last
    · rw [show (last - (p - (k : Int))).toNat = 0 by omega, show (last - p).toNat = 0 by omega, Nat.mul_assoc, ← Nat.pow_add, show k + (p - (k : Int) - last).toNat = (p - last).toNat by omega]
    · rw [show (p - (k : Int) - last).toNat = 0 by omega, Nat.pow_zero, Nat.mul_one]
      by_cases c2 : 0 ≤ p - last
      · have e : k = (p - last).toNat + (last - (p - (k : Int))).toNat := by omega
        have e2 : (last - p).toNat = 0 := by omega
        have := rne_shift (n * 2 ^ (p - last).toNat) 0 (last - (p - (k : Int))).toNat
        rw [Nat.mul_assoc, ← Nat.pow_add, ← e, Nat.zero_add] at this
        rw [this, e2]
      · have e : (last - (p - (k : Int))).toNat = (last - p).toNat + k := by omega
        rw [e, rne_shift, show (p - last).toNat = 0 by omega, Nat.pow_zero, Nat.mul_one]
  rw [key]

/-- a datum's word, by its exact value: for a number whose place is at least -1074 -/
theorem nearest_down (neg : Bool) (n : Nat) (p : Int) (h : -1074 ≤ p) : Ieee.double.nearest neg n p = Ieee.double.nearest neg (n * 2 ^ (p + 1074).toNat) (-1074) := by
  rw [← nearest_shift _ neg n (p + 1074).toNat p, show p - ((p + 1074).toNat : Int) = -1074 by omega]

/-- the word of an exact value z * 2^-1074 -/
def W (z : Int) : Nat := Ieee.double.nearest (decide (z < 0)) z.natAbs (-1074)

theorem natAbs_unit : unit.natAbs = 2 ^ 1074 := by unfold unit; exact natAbs_gen 1074

theorem F_W (n : Int) : F n = W (n * unit) := by
  unfold W
  rw [F_eq, nearest_down _ _ _ (by decide), Int.natAbs_mul, natAbs_unit]
  have hu := unit_pos
  have : decide (n * unit < 0) = decide (n < 0) := by
    rw [decide_eq_decide]
    constructor
    · intro h
      apply Decidable.byContradiction
      intro h2
      have := Int.mul_nonneg (show 0 ≤ n by omega) (Int.le_of_lt hu)
      omega
    · intro h; exact Int.mul_neg_of_neg_of_pos h hu
  rw [this, show ((0 : Int) + 1074).toNat = 1074 by decide]

theorem natAbs_shift (t : Int) (k : Nat) : (t * 2 ^ k).natAbs = t.natAbs * 2 ^ k := by
  rw [Int.natAbs_mul, Int.natAbs_pow]; rfl

/-- the sum of two words of exact values x, y, where it is not nought -/
theorem add_is {x y : Nat} {a b : Int} (hx : Is (Ieee.double.read x) a) (hy : Is (Ieee.double.read y) b) (h : a + b ≠ 0) : Ieee.double.add x y = some (W (a + b)) := by
  obtain ⟨s, m, i, e, hi, rfl⟩ := hx
  obtain ⟨t, n, j, f, hj, rfl⟩ := hy
  unfold Ieee.Format.add
  rw [e, f]
  unfold Ieee.Datum.sum
  dsimp only
  generalize hb : min i j = base
  have hb1 : -1074 ≤ base := by omega
  have e1 : (i + 1074).toNat = (i - base).toNat + (base + 1074).toNat := by omega
  have e2 : (j + 1074).toNat = (j - base).toNat + (base + 1074).toNat := by omega
  have hp : (0 : Int) < 2 ^ (base + 1074).toNat := Int.pow_pos (by decide)
  rw [e1, e2, signed_shift, signed_shift, ← Int.add_mul] at h ⊢
  generalize hT : Ieee.signed s m (i - base).toNat + Ieee.signed t n (j - base).toNat = T at *
  have hT0 : T ≠ 0 := by intro h0; rw [h0] at h; simp at h
  rw [if_neg hT0, Option.map_some]
  unfold Ieee.Format.write W
  dsimp only
  rw [nearest_down _ _ base hb1, natAbs_shift]
  have : decide (T * 2 ^ (base + 1074).toNat < 0) = decide (T < 0) := by
    rw [decide_eq_decide]
    constructor
    · intro h
      apply Decidable.byContradiction
      intro h2
      have := Int.mul_nonneg (show 0 ≤ T by omega) (Int.le_of_lt hp)
      omega
    · intro h; exact Int.mul_neg_of_neg_of_pos h hp
  rw [this]

theorem read26 : Ieee.double.read (F 67108864) = .number false 4503599627370496 (-26) := by decide +kernel

/-- n * 2^26, in floats, where n is small: the float of the product -/
theorem mul_F (n : Int) (h1 : -137438953472 ≤ n) (h2 : n ≤ 137438953472) : Ieee.double.mul (F n) (F 67108864) = some (F (n * 67108864)) := by
  by_cases h : n = 0
  · subst h; decide +kernel
  unfold Ieee.Format.mul
  obtain ⟨m, i, e, hi, hv⟩ := read_nearest (decide (n < 0)) n.natAbs (by omega) (log2_le n (by omega) (by omega) h)
  rw [F_eq n, e, read26]
  unfold Ieee.Datum.product
  dsimp only
  rw [Option.map_some]
  unfold Ieee.Format.write
  dsimp only
  have hr : rnd n.natAbs = n.natAbs := by
    refine rnd_small _ ?_
    have : (2 : Nat) ^ 53 = 9007199254740992 := by decide +kernel
    omega
  rw [hr] at hv
  rw [F_eq, Bool.xor_false]
  have es : decide (n * 67108864 < 0) = decide (n < 0) := by rw [decide_eq_decide]; omega
  have en : (n * 67108864).natAbs = n.natAbs * 67108864 := by omega
  rw [es, en, nearest_down _ (n.natAbs * 67108864) 0 (by decide)]
  have ei : i + -26 = (i + 26) - (52 : Nat) := by omega
  have p52 : 4503599627370496 = 2 ^ 52 := by decide +kernel
  rw [ei, p52, nearest_shift, nearest_down _ m (i + 26) (by omega)]
  have ev : m * 2 ^ (i + 26 + 1074).toNat = n.natAbs * 67108864 * 2 ^ ((0 : Int) + 1074).toNat := by
    rw [show (i + 26 + 1074).toNat = (i + 1074).toNat + 26 by omega, show ((0 : Int) + 1074).toNat = 1074 by decide]
    exact ev_gen m _ n.natAbs 1074 hv
  rw [ev]

/-- a multiple of 2^26 within int64 is exact -/
theorem srnd_mul (n : Int) (h1 : -137438953472 ≤ n) (h2 : n ≤ 137438953472) : srnd (n * 67108864) = n * 67108864 := by
  have hr : rnd (n * 67108864).natAbs = (n * 67108864).natAbs := by
    by_cases h0 : n = 0
    · subst h0; decide +kernel
    refine rnd_exact _ ?_
    have hlt : (n * 67108864).natAbs.log2 < 64 := by
      refine (Nat.log2_lt (by omega)).2 ?_
      have : (2 : Nat) ^ 64 = 18446744073709551616 := by decide +kernel
      omega
    have : 2 ^ ((n * 67108864).natAbs.log2 - 52) ∣ 2 ^ 26 := Nat.pow_dvd_pow _ (by omega)
    refine Nat.mod_eq_zero_of_dvd (Nat.dvd_trans this ?_)
    exact ⟨n.natAbs, by have : (2 : Nat) ^ 26 = 67108864 := by decide +kernel
                        omega⟩
  unfold srnd
  rw [hr]
  split <;> omega

/-- THE SPLIT: d = hi * 2^26 + lo: the float sum of the parts is the float of d -/
theorem split_F (hi lo : Int) (h1 : -137438953472 ≤ hi) (h2 : hi ≤ 137438953472) (h3 : 0 ≤ lo) (h4 : lo < 67108864) :
    Ieee.double.add (F (hi * 67108864)) (F lo) = some (F (hi * 67108864 + lo)) := by
  by_cases h : hi * 67108864 + lo = 0
  · have a : hi = 0 := by omega
    have b : lo = 0 := by omega
    subst a; subst b; decide +kernel
  have hx := F_is (hi * 67108864) (by omega) (by omega)
  have hy := F_is lo (by omega) (by omega)
  rw [srnd_mul hi h1 h2] at hx
  rw [srnd_exact lo (by omega) (by omega)] at hy
  have hu := unit_pos
  rw [add_is hx hy, ← Int.add_mul, ← F_W]
  rw [← Int.add_mul]
  intro h0
  rcases Int.mul_eq_zero.1 h0 with h0 | h0 <;> omega

/-- back to an integer: exact where the size is at most 2^53 -/
theorem toInt_F (n : Int) (h1 : -9007199254740992 ≤ n) (h2 : n ≤ 9007199254740992) : floatToIntVal .f64 (F n) .i64 = some n := by
  have hd : ((FloatKind.f64).decode (F n)).toInt .zero = some n := by
    by_cases h : n = 0
    · subst h; decide +kernel
    obtain ⟨m, i, e, hi, hv⟩ := read_nearest (decide (n < 0)) n.natAbs (by omega) (log2_le n (by omega) (by omega) h)
    have hs := srnd_exact n h1 h2
    have hr : rnd n.natAbs = n.natAbs := by
      unfold srnd at hs
      split at hs <;> omega
    rw [hr] at hv
    show (Ieee.double.read (F n)).toInt .zero = some n
    rw [F_eq, e]
    unfold Ieee.Datum.toInt Ieee.Datum.integral
    dsimp only
    have hm : m ≠ 0 := by
      intro h0; subst h0
      have : 0 < n.natAbs * 2 ^ 1074 := pos_gen n.natAbs 1074 (by omega)
      omega
    -- the whole part
    have hc : Ieee.Toward.zero.cut (decide (n < 0)) (m <<< i.toNat) (-i).toNat = n.natAbs := by
      unfold Ieee.Toward.cut
      dsimp only
      rw [Nat.shiftLeft_eq, Nat.one_shiftLeft]
      by_cases hi0 : 0 ≤ i
      · rw [show (-i).toNat = 0 by omega, Nat.zero_min, Nat.pow_zero, Nat.div_one]
        rw [show (i + 1074).toNat = i.toNat + 1074 by omega, Nat.pow_add, ← Nat.mul_assoc] at hv
        have := Nat.eq_of_mul_eq_mul_right (Nat.two_pow_pos 1074) hv
        rw [this]; rfl
      · rw [show i.toNat = 0 by omega, Nat.pow_zero, Nat.mul_one]
        have hv2 : m = n.natAbs * 2 ^ (-i).toNat := by
          refine Nat.eq_of_mul_eq_mul_right (Nat.two_pow_pos (i + 1074).toNat) ?_
          rw [hv, Nat.mul_assoc, ← Nat.pow_add, show (-i).toNat + (i + 1074).toNat = 1074 by omega]
        have hl : (-i).toNat ≤ m.log2 + 2 := by
          rw [hv2, log2_shift _ _ (by omega)]; omega
        rw [Nat.min_eq_left hl, hv2, Nat.mul_div_cancel _ (Nat.two_pow_pos _)]; rfl
    rw [hc]
    unfold Ieee.signed
    rw [Nat.shiftLeft_zero]
    by_cases hn : n < 0
    · rw [if_pos (by simp [hn])]; congr 1; omega
    · rw [if_neg (by simp [hn])]; congr 1; omega
  unfold floatToIntVal
  rw [hd]
  dsimp only
  have a : IntKind.min .i64 = -9223372036854775808 := by decide +kernel
  have b : IntKind.max .i64 = 9223372036854775807 := by decide +kernel
  rw [a, b, if_pos ⟨by omega, by omega⟩]

end Go.Proofs.Qxb6605602a.Flt
