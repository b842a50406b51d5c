/-
  PLAIN: the words of whole numbers under Go's bit operations, and their orders against the constants that package math holds them against.
-/
import Derived.Test.YbulkbdnaFloat
import Derived.Laws.BitsAllLaws
import Derived.Laws.BitsLemmas
import Derived.Laws.FloatArith
namespace Go.Proofs.Ybulkbdna.Fl
open Ieee

theorem fmt64 : FloatKind.f64.format = double := rfl

theorem num_FB {n : Nat} (h : n < 2 ^ 53) : Num (FB n) false n := num_word false h

/-- The word of the negated number. -/
def NB (n : Nat) : Nat := double.word true (FB n)

theorem num_NB {n : Nat} (h : n < 2 ^ 53) : Num (NB n) true n := num_word true h

theorem FB_lt' {n : Nat} (h : n < 2 ^ 53) : FB n < 9223372036854775808 := FB_lt h

theorem NB_eq (n : Nat) : NB n = 9223372036854775808 + FB n := rfl

theorem clear_sign (b : Nat) (h : b < 9223372036854775808) : bits .andNot .u64 (b : Int) 9223372036854775808 = (b : Int) := by
  have e : bits .andNot .u64 (b : Int) ((9223372036854775808 : Nat) : Int) = _ := u64_andNot_nat b 9223372036854775808 (by omega) (by omega)
  rw [show (9223372036854775808 : Int) = ((9223372036854775808 : Nat) : Int) from rfl, e]
  have : b &&& 18446744073709551615 - 9223372036854775808 = b % 2 ^ 63 := Nat.and_two_pow_sub_one_eq_mod b 63
  rw [this]
  omega

theorem clear_sign_neg (b : Nat) (h : b < 9223372036854775808) : bits .andNot .u64 ((9223372036854775808 + b : Nat) : Int) 9223372036854775808 = (b : Int) := by
  have e : bits .andNot .u64 ((9223372036854775808 + b : Nat) : Int) ((9223372036854775808 : Nat) : Int) = _ := u64_andNot_nat _ 9223372036854775808 (by omega) (by omega)
  rw [show (9223372036854775808 : Int) = ((9223372036854775808 : Nat) : Int) from rfl, e]
  have : (9223372036854775808 + b) &&& 18446744073709551615 - 9223372036854775808 = (9223372036854775808 + b) % 2 ^ 63 := Nat.and_two_pow_sub_one_eq_mod _ 63
  rw [this]
  omega

theorem mask11 (b : Nat) (h : b < 4096) : bits .and .u64 (b : Int) 2047 = ((b % 2048 : Nat) : Int) := by
  have e : bits .and .u64 (b : Int) ((2047 : Nat) : Int) = _ := u64_and_nat b 2047 (by omega) (by omega)
  rw [show (2047 : Int) = ((2047 : Nat) : Int) from rfl, e]
  have : b &&& 2047 = b % 2 ^ 11 := Nat.and_two_pow_sub_one_eq_mod b 11
  rw [this]

theorem clear_exp (b : Nat) (h : b < 9223372036854775808) : bits .andNot .u64 (b : Int) 9218868437227405312 = ((b % 2 ^ 52 : Nat) : Int) := by
  have e : bits .andNot .u64 (b : Int) ((9218868437227405312 : Nat) : Int) = _ := u64_andNot_nat b 9218868437227405312 (by omega) (by omega)
  rw [show (9218868437227405312 : Int) = ((9218868437227405312 : Nat) : Int) from rfl, e]
  have e2 : 18446744073709551615 - 9218868437227405312 = 2 ^ 63 ||| (2 ^ 52 - 1) := by decide
  rw [e2, Nat.and_or_distrib_left, nat_bit, Nat.and_two_pow_sub_one_eq_mod]
  have : b / 2 ^ 63 % 2 = 0 := by omega
  rw [this]; simp

theorem put_exp (lo x : Nat) (hl : lo < 2 ^ 52) (hx : x < 4096) : bits .or .u64 (lo : Int) ((x * 2 ^ 52 : Nat) : Int) = ((x * 2 ^ 52 + lo : Nat) : Int) := by
  have e := u64_or_nat lo (x * 2 ^ 52) (by omega) (by omega)
  rw [e, Nat.or_comm, nat_join 52 _ _ (Nat.mul_mod_left _ _) hl]

theorem i64_and_nat (a b : Nat) (ha : a < 4096) (hb : b < 4096) : bits .and .i64 (a : Int) (b : Int) = ((a &&& b : Nat) : Int) := by
  have h1 : a &&& b ≤ a := Nat.and_le_left
  have e : ((BitVec.ofInt 64 (a : Int)) &&& (BitVec.ofInt 64 (b : Int))).toNat = a &&& b := by
    rw [BitVec.toNat_and, ofInt_u64 a (by omega), ofInt_u64 b (by omega)]
  show IntKind.i64.wrap ((((BitVec.ofInt 64 (a : Int)) &&& (BitVec.ofInt 64 (b : Int))).toNat : Nat) : Int) = _
  rw [e, IntKind.wrap_i64]
  omega

theorem mask11i (b : Nat) (h : b < 2048) : bits .and .i64 (b : Int) 2047 = (b : Int) := by
  have e : bits .and .i64 (b : Int) ((2047 : Nat) : Int) = _ := i64_and_nat b 2047 (by omega) (by omega)
  rw [show (2047 : Int) = ((2047 : Nat) : Int) from rfl, e]
  have : b &&& 2047 = b % 2 ^ 11 := Nat.and_two_pow_sub_one_eq_mod b 11
  rw [this]
  omega

theorem FB_parts {n : Nat} (h0 : n ≠ 0) (h : n < 2 ^ 53) : FB n / 2 ^ 52 = 1023 + n.log2 ∧ FB n % 2 ^ 52 = n * 2 ^ (52 - n.log2) - 2 ^ 52 := by
  have hl := log2_lt h0 h
  have hlo := mant_lo h0 h
  have hhi := mant_hi h0 h
  have e : FB n = (1022 + n.log2) * 2 ^ 52 + n * 2 ^ (52 - n.log2) := FB_pos h0
  generalize n * 2 ^ (52 - n.log2) = M at *
  omega

theorem exp_bits {n : Nat} (h0 : n ≠ 0) (h : n < 2 ^ 53) : bits .and .u64 ((FB n : Int) / 4503599627370496) 2047 = 1023 + (n.log2 : Int) := by
  have hl := log2_lt h0 h
  have e1 : (FB n : Int) / 4503599627370496 = ((FB n / 2 ^ 52 : Nat) : Int) := by omega
  rw [e1, (FB_parts h0 h).1, mask11 _ (by omega)]
  omega

theorem exp_div {n : Nat} (h0 : n ≠ 0) (h : n < 2 ^ 53) : (FB n : Int) / 4503599627370496 = 1023 + (n.log2 : Int) := by
  have e1 : (FB n : Int) / 4503599627370496 = ((FB n / 2 ^ 52 : Nat) : Int) := by omega
  rw [e1, (FB_parts h0 h).1]
  omega

theorem exp_and {n : Nat} (h0 : n ≠ 0) (h : n < 2 ^ 53) : bits .and .i64 (1023 + (n.log2 : Int)) 2047 = 1023 + (n.log2 : Int) := by
  have hl := log2_lt h0 h
  have e := mask11i (1023 + n.log2) (by omega)
  rw [show ((1023 + n.log2 : Nat) : Int) = 1023 + (n.log2 : Int) from by omega] at e
  exact e

/-- The fraction that Frexp hands back, in [1/2, 1). -/
def FR (n : Nat) : Nat := 1021 * 2 ^ 52 + n * 2 ^ (52 - n.log2)

theorem frac_bits {n : Nat} (h0 : n ≠ 0) (h : n < 2 ^ 53) : bits .or .u64 (bits .andNot .u64 (FB n : Int) 9218868437227405312) 4602678819172646912 = (FR n : Int) := by
  have hlo := mant_lo h0 h
  have e := put_exp (FB n % 2 ^ 52) 1022 (Nat.mod_lt _ (by decide)) (by omega)
  rw [clear_exp _ (FB_lt' h)]
  rw [show (4602678819172646912 : Int) = ((1022 * 2 ^ 52 : Nat) : Int) from by decide, e, (FB_parts h0 h).2]
  unfold FR
  generalize n * 2 ^ (52 - n.log2) = M at *
  omega

theorem scale_bits {n k : Nat} (h0 : n ≠ 0) (hn : n < 2 ^ 53) (h : n * 2 ^ k < 2 ^ 53) :
    bits .or .u64 (bits .andNot .u64 (FB n : Int) 9218868437227405312) (((k : Int) + (1023 + (n.log2 : Int) - 1023) + 1023) * 4503599627370496) = (FB (n * 2 ^ k) : Int) := by
  have hlo := mant_lo h0 hn
  have hp : n * 2 ^ k ≠ 0 := Nat.mul_ne_zero h0 (Nat.ne_of_gt (Nat.two_pow_pos _))
  have hl := log2_lt hp h
  have hlk : (n * 2 ^ k).log2 = n.log2 + k := log2_mul_pow h0
  rw [hlk] at hl
  have e := put_exp (FB n % 2 ^ 52) (k + n.log2 + 1023) (Nat.mod_lt _ (by decide)) (by omega)
  rw [clear_exp _ (FB_lt' hn)]
  rw [show ((k : Int) + (1023 + (n.log2 : Int) - 1023) + 1023) * 4503599627370496 = (((k + n.log2 + 1023) * 2 ^ 52 : Nat) : Int) from by omega, e, (FB_parts h0 hn).2, FB_pos hp, hlk]
  have e2 : n * 2 ^ k * 2 ^ (52 - (n.log2 + k)) = n * 2 ^ (52 - n.log2) := by
    rw [Nat.mul_assoc, ← Nat.pow_add]; congr 2; omega
  rw [e2]
  generalize n * 2 ^ (52 - n.log2) = M at *
  omega

theorem read_FR {n : Nat} (h0 : n ≠ 0) (h : n < 2 ^ 53) : double.read (FR n) = .number false (n * 2 ^ (52 - n.log2)) (-53) := by
  have hlo := mant_lo h0 h
  have hhi := mant_hi h0 h
  have hsw : double.signWeight = 2 ^ 63 := by decide
  have hbn : double.binade = 2 ^ 52 := rfl
  have hlp : double.leastPlace = -1074 := by decide
  have hinf : double.infRung = 2047 * 2 ^ 52 := by decide
  unfold FR
  generalize n * 2 ^ (52 - n.log2) = M at *
  unfold Format.read
  simp only [hsw, hbn, hlp, hinf]
  have h1 : (1021 * 2 ^ 52 + M) / 2 ^ 63 % 2 = 0 := by omega
  have h2 : (1021 * 2 ^ 52 + M) % 2 ^ 63 = 1021 * 2 ^ 52 + M := by omega
  rw [h1, h2, if_neg (by omega), if_pos (by omega)]
  have h3 : 2 ^ 52 + (1021 * 2 ^ 52 + M) % 2 ^ 52 = M := by omega
  have h4 : (-1074 : Int) + (((1021 * 2 ^ 52 + M) / 2 ^ 52 - 1 : Nat) : Int) = -53 := by omega
  rw [h3, h4]; rfl

theorem order_FR {a b : Nat} (a0 : a ≠ 0) (ha : a < 2 ^ 53) (b0 : b ≠ 0) (hb : b < 2 ^ 53) :
    double.order (FR a) (FR b) = some (compare ((a * 2 ^ (52 - a.log2) : Nat) : Int) ((b * 2 ^ (52 - b.log2) : Nat) : Int)) := by
  unfold Format.order
  rw [read_FR a0 ha, read_FR b0 hb]
  simp [Datum.order, signed]

theorem compare_lt_of {a b : Int} (h : a < b) : compare a b = .lt := by simp [compare, compareOfLessAndEq, h]
theorem compare_gt_of {a b : Int} (h : b < a) : compare a b = .gt := by
  have h1 : ¬ a < b := by omega
  have h2 : ¬ a = b := by omega
  simp [compare, compareOfLessAndEq, h1, h2]
theorem compare_eq_of (a : Int) : compare a a = .eq := by simp [compare, compareOfLessAndEq]

/-- Against the greatest float. -/
theorem order_max {b v : Nat} (hb : Num b false v) (hv : v < 2 ^ 53) : (double.order b 9218868437227405311 == some .gt) = false := by
  have h1 : double.read 9218868437227405311 = .number false 9007199254740991 971 := by decide
  obtain ⟨q, hq, hb⟩ := hb
  unfold Format.order
  rw [h1, hb]
  simp only [Datum.order]
  have e0 : min (-(q : Int)) 971 = -(q : Int) := by omega
  have e1 : (-(q : Int) - -(q : Int)).toNat = 0 := by omega
  have e2 : (971 - -(q : Int)).toNat = q + 971 := by omega
  rw [e0, e1, e2]
  have hlt : signed false (v * 2 ^ q) 0 < signed false 9007199254740991 (q + 971) := by
    simp only [signed, Bool.false_eq_true, if_false, Nat.shiftLeft_eq, Nat.pow_zero, Nat.mul_one]
    have h2 : v * 2 ^ q < 9007199254740991 * 2 ^ (q + 971) := by
      have h3 : 2 ^ (q + 971) = 2 ^ q * 2 ^ 971 := Nat.pow_add ..
      have h4 : 2 ≤ 2 ^ 971 := by
        calc 2 = 2 ^ 1 := rfl
          _ ≤ 2 ^ 971 := Nat.pow_le_pow_right (by omega) (by omega)
      have h5 : 0 < 2 ^ q := Nat.two_pow_pos _
      generalize 2 ^ 971 = Z at *
      generalize 2 ^ q = Y at *
      rw [h3]
      calc v * Y < 9007199254740992 * Y := Nat.mul_lt_mul_of_pos_right hv h5
        _ ≤ 9007199254740991 * 2 * Y := Nat.mul_le_mul_right _ (by omega)
        _ = 9007199254740991 * (Y * 2) := by rw [Nat.mul_assoc, Nat.mul_comm 2 Y]
        _ ≤ _ := Nat.mul_le_mul_left _ (Nat.mul_le_mul_left _ h4)
    exact_mod_cast h2
  rw [compare_lt_of hlt]
  rfl

/-- Against the least normal float. -/
theorem order_least {b v : Nat} (hb : Num b false v) (h0 : v ≠ 0) : (double.order b 4503599627370496 == some .lt) = false := by
  have h1 : double.read 4503599627370496 = .number false 4503599627370496 (-1074) := by decide
  obtain ⟨q, hq, hb⟩ := hb
  unfold Format.order
  rw [h1, hb]
  simp only [Datum.order]
  have e0 : min (-(q : Int)) (-1074) = -1074 := by omega
  have e1 : (-(q : Int) - -1074).toNat = 1074 - q := by omega
  have e2 : ((-1074 : Int) - -1074).toNat = 0 := by omega
  rw [e0, e1, e2]
  have hle : signed false 4503599627370496 0 < signed false (v * 2 ^ q) (1074 - q) := by
    simp only [signed, Bool.false_eq_true, if_false, Nat.shiftLeft_eq, Nat.pow_zero, Nat.mul_one]
    obtain ⟨Q, hQ⟩ : ∃ Q : Nat, Q = 1014 := ⟨_, rfl⟩
    have h2 : v * 2 ^ q * 2 ^ (1074 - q) = v * (2 ^ 60 * 2 ^ Q) := by
      rw [Nat.mul_assoc, ← Nat.pow_add, ← Nat.pow_add, show q + (1074 - q) = 60 + Q by omega]
    rw [h2]
    have h3 : 1 ≤ 2 ^ Q := Nat.two_pow_pos _
    generalize 2 ^ Q = Z at *
    have h4 : 4503599627370496 < v * (2 ^ 60 * Z) := by
      calc 4503599627370496 < 1 * (2 ^ 60 * 1) := by decide
        _ ≤ v * (2 ^ 60 * Z) := Nat.mul_le_mul (by omega) (Nat.mul_le_mul_left _ h3)
    exact_mod_cast h4
  rw [compare_gt_of hle]
  rfl

end Go.Proofs.Ybulkbdna.Fl
