/-
  PLAIN: WHOLE NUMBERS BELOW 2^53 AS FLOAT64 WORDS. No Go in sight: over the core of IEEE words alone.
-/
import Ieee.Arith
namespace Go.Proofs.Ybulkbdna.Fl
open Ieee

/-- The rung of the whole number n (below 2^53). -/
def FB (n : Nat) : Nat := if n = 0 then 0 else (1022 + n.log2) * 2 ^ 52 + n * 2 ^ (52 - n.log2)

theorem log2_lt {n : Nat} (h0 : n ≠ 0) (h : n < 2 ^ 53) : n.log2 ≤ 52 := by
  have := (Nat.log2_lt h0).2 h
  omega

theorem mant_lo {n : Nat} (h0 : n ≠ 0) (h : n < 2 ^ 53) : 2 ^ 52 ≤ n * 2 ^ (52 - n.log2) := by
  have hl := log2_lt h0 h
  have h1 : 2 ^ n.log2 ≤ n := Nat.log2_self_le h0
  calc 2 ^ 52 = 2 ^ n.log2 * 2 ^ (52 - n.log2) := by rw [← Nat.pow_add]; congr 1; omega
    _ ≤ _ := Nat.mul_le_mul_right _ h1

theorem mant_hi {n : Nat} (h0 : n ≠ 0) (h : n < 2 ^ 53) : n * 2 ^ (52 - n.log2) < 2 ^ 53 := by
  have hl := log2_lt h0 h
  have h1 : n < 2 ^ (n.log2 + 1) := Nat.lt_log2_self
  calc n * 2 ^ (52 - n.log2) < 2 ^ (n.log2 + 1) * 2 ^ (52 - n.log2) := Nat.mul_lt_mul_of_pos_right h1 (Nat.two_pow_pos _)
    _ = 2 ^ 53 := by rw [← Nat.pow_add]; congr 1; omega

theorem FB_zero : FB 0 = 0 := by simp [FB]

theorem FB_pos {n : Nat} (h0 : n ≠ 0) : FB n = (1022 + n.log2) * 2 ^ 52 + n * 2 ^ (52 - n.log2) := by simp [FB, h0]

theorem log2_mul_pow {n a : Nat} (h0 : n ≠ 0) : (n * 2 ^ a).log2 = n.log2 + a := by
  have hp : n * 2 ^ a ≠ 0 := Nat.mul_ne_zero h0 (Nat.ne_of_gt (Nat.two_pow_pos _))
  rw [Nat.log2_eq_iff hp, Nat.pow_add, Nat.pow_succ, Nat.pow_add]
  constructor
  · exact Nat.mul_le_mul_right _ (Nat.log2_self_le h0)
  · have h1 : n < 2 ^ (n.log2 + 1) := Nat.lt_log2_self
    rw [Nat.pow_succ] at h1
    calc n * 2 ^ a < (2 ^ n.log2 * 2) * 2 ^ a := Nat.mul_lt_mul_of_pos_right h1 (Nat.two_pow_pos _)
      _ = _ := by rw [Nat.mul_right_comm]

theorem cut_even_zero (neg : Bool) (n : Nat) : Toward.even.cut neg n 0 = n := by
  simp [Toward.cut, Nat.mod_one]

theorem cut_exact (way : Toward) (neg : Bool) (n d : Nat) (h0 : n ≠ 0) : way.cut neg (n * 2 ^ d) d = n := by
  have hl : (n * 2 ^ d).log2 = n.log2 + d := log2_mul_pow h0
  have hm : min d ((n * 2 ^ d).log2 + 2) = d := by rw [hl]; omega
  unfold Toward.cut
  simp only [hm, Nat.shiftLeft_eq, Nat.one_mul]
  have h1 : n * 2 ^ d / 2 ^ d = n := Nat.mul_div_cancel _ (Nat.two_pow_pos _)
  have h2 : n * 2 ^ d % 2 ^ d = 0 := Nat.mul_mod_left _ _
  have hp : 2 ^ d ≠ 0 := Nat.ne_of_gt (Nat.two_pow_pos _)
  rw [h1, h2]
  cases way <;> simp

theorem cut_zero (way : Toward) (neg : Bool) (d : Nat) : way.cut neg 0 d = 0 := by
  have hl : (0 : Nat).log2 = 0 := by decide
  have hp : 2 ^ (min d 2) ≠ 0 := Nat.ne_of_gt (Nat.two_pow_pos _)
  unfold Toward.cut
  simp only [hl, Nat.shiftLeft_eq, Nat.one_mul, Nat.zero_mod, Nat.zero_div]
  cases way <;> simp

/-- What is written of a whole number below 2^53, however it is scaled. -/
theorem nearest_exact (neg : Bool) (n a : Nat) (h : n < 2 ^ 53) : double.nearest neg (n * 2 ^ a) (-(a : Int)) = double.word neg (FB n) := by
  by_cases h0 : n = 0
  · subst h0
    simp [Format.nearest, FB_zero]
  · have hp : n * 2 ^ a ≠ 0 := Nat.mul_ne_zero h0 (Nat.ne_of_gt (Nat.two_pow_pos _))
    have hl := log2_lt h0 h
    have hlo := mant_lo h0 h
    have hhi := mant_hi h0 h
    have hlp : double.leastPlace = -1074 := by decide
    have hfb : double.fractionBits = 52 := rfl
    have hbn : double.binade = 2 ^ 52 := rfl
    have hinf : double.infRung = 2047 * 2 ^ 52 := by decide
    have hlast : max (-(a : Int) + (n * 2 ^ a).log2 - (double.fractionBits : Nat)) double.leastPlace = (n.log2 : Int) - 52 := by
      rw [log2_mul_pow h0, hlp, hfb]; omega
    unfold Format.nearest
    simp only [hp, if_false, hlast]
    have hkept : Toward.even.cut neg ((n * 2 ^ a) <<< (-(a : Int) - ((n.log2 : Int) - 52)).toNat) ((n.log2 : Int) - 52 - -(a : Int)).toNat = n * 2 ^ (52 - n.log2) := by
      by_cases hc : a ≤ 52 - n.log2
      · have e1 : (-(a : Int) - ((n.log2 : Int) - 52)).toNat = 52 - n.log2 - a := by omega
        have e2 : ((n.log2 : Int) - 52 - -(a : Int)).toNat = 0 := by omega
        rw [e1, e2, cut_even_zero, Nat.shiftLeft_eq, Nat.mul_assoc, ← Nat.pow_add]
        congr 2; omega
      · have e1 : (-(a : Int) - ((n.log2 : Int) - 52)).toNat = 0 := by omega
        have e2 : ((n.log2 : Int) - 52 - -(a : Int)).toNat = a - (52 - n.log2) := by omega
        rw [e1, e2, Nat.shiftLeft_zero]
        have e3 : n * 2 ^ a = (n * 2 ^ (52 - n.log2)) * 2 ^ (a - (52 - n.log2)) := by
          rw [Nat.mul_assoc, ← Nat.pow_add]; congr 2; omega
        rw [e3, cut_exact _ _ _ _ (by omega)]
    have e4 : ((n.log2 : Int) - 52 - -1074).toNat = 1022 + n.log2 := by omega
    have e5 := FB_pos h0
    rw [hkept, hlp, hbn, hinf, e4, ← e5]
    generalize n * 2 ^ (52 - n.log2) = M at *
    have hle : FB n ≤ 2047 * 2 ^ 52 := by omega
    rw [Nat.min_eq_left hle]

theorem FB_lt {n : Nat} (h : n < 2 ^ 53) : FB n < 2 ^ 63 := by
  by_cases h0 : n = 0
  · subst h0; rw [FB_zero]; decide
  · rw [FB_pos h0]
    have hl := log2_lt h0 h
    have hhi := mant_hi h0 h
    have : (1022 + n.log2) * 2 ^ 52 ≤ 1074 * 2 ^ 52 := Nat.mul_le_mul_right _ (by omega)
    omega

/-- A word that stands for the whole number v with the sign s. -/
def Num (b : Nat) (s : Bool) (v : Nat) : Prop := ∃ q : Nat, q ≤ 1074 ∧ double.read b = .number s (v * 2 ^ q) (-(q : Int))

theorem num_word (s : Bool) {n : Nat} (h : n < 2 ^ 53) : Num (double.word s (FB n)) s n := by
  have hsw : double.signWeight = 2 ^ 63 := by decide
  have hbn : double.binade = 2 ^ 52 := rfl
  have hlp : double.leastPlace = -1074 := by decide
  have hinf : double.infRung = 2047 * 2 ^ 52 := by decide
  have hlt := FB_lt h
  have hneg : ((double.word s (FB n)) / double.signWeight % 2 == 1) = s := by
    cases s
    · simp only [Format.word, hsw, Bool.false_eq_true, if_false]
      rw [Nat.div_eq_of_lt hlt]; rfl
    · simp only [Format.word, hsw, if_true]
      have : (2 ^ 63 + FB n) / 2 ^ 63 = 1 := by omega
      rw [this]; rfl
  have hrung : (double.word s (FB n)) % double.signWeight = FB n := by
    cases s
    · simp only [Format.word, hsw, Bool.false_eq_true, if_false]
      exact Nat.mod_eq_of_lt hlt
    · simp only [Format.word, hsw, if_true]
      omega
  by_cases h0 : n = 0
  · subst h0
    obtain ⟨q, hq⟩ : ∃ q : Nat, q = 1074 := ⟨_, rfl⟩
    refine ⟨q, by omega, ?_⟩
    have h6 : (-1074 : Int) = -(q : Int) := by omega
    clear hq
    unfold Format.read
    simp only [hneg, hrung, hbn, hlp]
    rw [FB_zero, if_pos (by decide), Nat.zero_mul, h6]
  · have hl := log2_lt h0 h
    have hlo := mant_lo h0 h
    have hhi := mant_hi h0 h
    refine ⟨52 - n.log2, by omega, ?_⟩
    unfold Format.read
    simp only [hneg, hrung, hbn, hlp, hinf]
    have e : FB n = (1022 + n.log2) * 2 ^ 52 + n * 2 ^ (52 - n.log2) := FB_pos h0
    generalize n * 2 ^ (52 - n.log2) = M at *
    have h1 : ¬ FB n < 2 ^ 52 := by omega
    have h2 : FB n < 2047 * 2 ^ 52 := by omega
    have h3 : FB n % 2 ^ 52 = M - 2 ^ 52 := by omega
    have h4 : FB n / 2 ^ 52 = 1023 + n.log2 := by omega
    rw [if_neg h1, if_pos h2, h3, h4]
    have h5 : 2 ^ 52 + (M - 2 ^ 52) = M := by omega
    have h6 : (-1074 : Int) + ((1023 + n.log2 - 1 : Nat) : Int) = -((52 - n.log2 : Nat) : Int) := by omega
    rw [h5, h6]

theorem compare_mul (a b : Int) (c : Nat) (hc : 0 < c) : compare (a * c) (b * c) = compare a b := by
  have hc' : (0 : Int) < (c : Int) := by exact_mod_cast hc
  have hlt : a * c < b * c ↔ a < b := by
    constructor
    · intro h; exact Int.lt_of_mul_lt_mul_right h (by omega)
    · intro h; exact Int.mul_lt_mul_of_pos_right h hc'
  have heq : a * c = b * c ↔ a = b := by
    constructor
    · intro h; exact Int.eq_of_mul_eq_mul_right (by omega) h
    · intro h; rw [h]
  simp only [compare, compareOfLessAndEq, hlt, heq]

/-- The number with its sign. -/
def sg (s : Bool) (v : Nat) : Int := if s then -(v : Int) else v

theorem signed_scale (s : Bool) (v q M : Nat) (h : q ≤ M) : signed s (v * 2 ^ q) (M - q) = sg s v * ((2 ^ M : Nat) : Int) := by
  have e : v * 2 ^ q * 2 ^ (M - q) = v * 2 ^ M := by
    rw [Nat.mul_assoc, ← Nat.pow_add]; congr 2; omega
  unfold signed sg
  rw [Nat.shiftLeft_eq, e]
  cases s <;> simp [Int.neg_mul]

theorem order_num {b c : Nat} {s t : Bool} {v u : Nat} (hb : Num b s v) (hc : Num c t u) : double.order b c = some (compare (sg s v) (sg t u)) := by
  obtain ⟨q, hq, hb⟩ := hb
  obtain ⟨r, hr, hc⟩ := hc
  unfold Format.order
  rw [hb, hc]
  simp only [Datum.order]
  have e1 : (-(q : Int) - min (-(q : Int)) (-(r : Int))).toNat = max q r - q := by omega
  have e2 : (-(r : Int) - min (-(q : Int)) (-(r : Int))).toNat = max q r - r := by omega
  rw [e1, e2, signed_scale _ _ _ _ (Nat.le_max_left ..), signed_scale _ _ _ _ (Nat.le_max_right ..), compare_mul _ _ _ (Nat.two_pow_pos _)]

/-- A sum of two whole numbers that does not cancel to a zero. -/
theorem add_num {b c : Nat} {s t : Bool} {v u n : Nat} {neg : Bool} (hb : Num b s v) (hc : Num c t u) (hn : n < 2 ^ 53) (hs : sg s v + sg t u = sg neg n)
    (hz : neg = if sg neg n = 0 then s && t else decide (sg neg n < 0)) : double.add b c = some (double.word neg (FB n)) := by
  obtain ⟨q, hq, hb⟩ := hb
  obtain ⟨r, hr, hc⟩ := hc
  unfold Format.add
  rw [hb, hc]
  simp only [Datum.sum]
  have e1 : (-(q : Int) - min (-(q : Int)) (-(r : Int))).toNat = max q r - q := by omega
  have e2 : (-(r : Int) - min (-(q : Int)) (-(r : Int))).toNat = max q r - r := by omega
  have hp : (0 : Int) < ((2 ^ max q r : Nat) : Int) := by exact_mod_cast Nat.two_pow_pos _
  rw [e1, e2, signed_scale _ _ _ _ (Nat.le_max_left ..), signed_scale _ _ _ _ (Nat.le_max_right ..), ← Int.add_mul, hs]
  have e3 : (sg neg n * ((2 ^ max q r : Nat) : Int) = 0) ↔ sg neg n = 0 := by
    rw [Int.mul_eq_zero]; omega
  have e4 : (sg neg n * ((2 ^ max q r : Nat) : Int) < 0) ↔ sg neg n < 0 := by
    constructor
    · intro h
      by_cases hh : sg neg n < 0
      · exact hh
      · exact absurd h (Int.not_lt.2 (Int.mul_nonneg (by omega) (by omega)))
    · intro h; exact Int.mul_neg_of_neg_of_pos h hp
  have e5 : (sg neg n * ((2 ^ max q r : Nat) : Int)).natAbs = n * 2 ^ max q r := by
    rw [Int.natAbs_mul, Int.natAbs_natCast]
    congr 1
    unfold sg; cases neg <;> simp
  have e6 : min (-(q : Int)) (-(r : Int)) = -((max q r : Nat) : Int) := by omega
  simp only [e3, e4, e5, e6, Option.map_some, ← hz]
  simp only [Format.write]
  rw [nearest_exact _ _ _ hn]

theorem opp_num {c : Nat} {t : Bool} {u : Nat} (hc : Num c t u) : ∃ q : Nat, q ≤ 1074 ∧ (double.read c).opposite = .number (!t) (u * 2 ^ q) (-(q : Int)) := by
  obtain ⟨r, hr, hc⟩ := hc
  exact ⟨r, hr, by rw [hc]; rfl⟩

/-- A difference of two whole numbers. -/
theorem sub_num {b c : Nat} {v u : Nat} (hb : Num b false v) (hc : Num c false u) (hle : u ≤ v) (hn : v < 2 ^ 53) : double.sub b c = some (FB (v - u)) := by
  obtain ⟨q, hq, hb⟩ := hb
  obtain ⟨r, hr, hc⟩ := opp_num hc
  unfold Format.sub
  rw [hb, hc]
  simp only [Datum.sum]
  have e1 : (-(q : Int) - min (-(q : Int)) (-(r : Int))).toNat = max q r - q := by omega
  have e2 : (-(r : Int) - min (-(q : Int)) (-(r : Int))).toNat = max q r - r := by omega
  have hp : (0 : Int) < ((2 ^ max q r : Nat) : Int) := by exact_mod_cast Nat.two_pow_pos _
  rw [e1, e2, signed_scale _ _ _ _ (Nat.le_max_left ..), signed_scale _ _ _ _ (Nat.le_max_right ..), ← Int.add_mul]
  have hs : sg false v + sg (!false) u = ((v - u : Nat) : Int) := by simp [sg]; omega
  rw [hs]
  have e5 : (((v - u : Nat) : Int) * ((2 ^ max q r : Nat) : Int)).natAbs = (v - u) * 2 ^ max q r := by
    rw [Int.natAbs_mul, Int.natAbs_natCast, Int.natAbs_natCast]
  have e4 : ¬ (((v - u : Nat) : Int) * ((2 ^ max q r : Nat) : Int) < 0) := Int.not_lt.2 (Int.mul_nonneg (by omega) (by omega))
  have e6 : min (-(q : Int)) (-(r : Int)) = -((max q r : Nat) : Int) := by omega
  simp only [e4, e5, e6, decide_false, Bool.false_and, ite_self, Option.map_some, Format.write]
  rw [nearest_exact _ _ _ (by omega)]
  rfl

/-- 1 times a whole number. -/
theorem one_mul_num {n : Nat} (h : n < 2 ^ 53) : double.mul 4607182418800017408 (FB n) = some (FB n) := by
  have h1 : double.read 4607182418800017408 = .number false (1 * 2 ^ 52) (-52) := by decide
  obtain ⟨q, hq, hb⟩ := num_word false h
  have hw : double.word false (FB n) = FB n := rfl
  rw [hw] at hb
  unfold Format.mul
  rw [h1, hb]
  simp only [Datum.product, Option.map_some, Format.write]
  have e : 1 * 2 ^ 52 * (n * 2 ^ q) = n * 2 ^ (52 + q) := by
    rw [Nat.one_mul, Nat.mul_left_comm, ← Nat.pow_add]
  have e2 : (-52 : Int) + -(q : Int) = -((52 + q : Nat) : Int) := by omega
  rw [e, e2]
  exact congrArg some (nearest_exact false n (52 + q) h)

theorem toInt_num {b : Nat} {s : Bool} {v : Nat} (hb : Num b s v) : (double.read b).toInt .zero = some (sg s v) := by
  obtain ⟨q, hq, hb⟩ := hb
  rw [hb]
  unfold Datum.toInt
  simp only [Datum.integral]
  have e1 : (-(q : Int)).toNat = 0 := by omega
  have e2 : (- -(q : Int)).toNat = q := by omega
  rw [e1, e2, Nat.shiftLeft_zero]
  by_cases h0 : v = 0
  · subst h0; simp [cut_zero, signed, sg]
  · rw [cut_exact _ _ _ _ h0]; simp [signed, sg]

end Go.Proofs.Ybulkbdna.Fl
