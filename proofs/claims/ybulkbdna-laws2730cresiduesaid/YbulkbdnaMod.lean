/-
  THE WALK of math.mod, math.Mod and noise.mod at whole numbers.
-/
import Derived.Test.YbulkbdnaMath
namespace Go.Proofs.Ybulkbdna
open Go.RowKit

namespace Fl
open Ieee

/-- The shift that one round of math.mod takes: the fraction of R is not below that of m. -/
theorem round_ge {R m : Nat} (hm : m ≠ 0) (hR : R < 2 ^ 53) (hle : m ≤ R) (hc : m * 2 ^ (52 - m.log2) ≤ R * 2 ^ (52 - R.log2)) :
    m.log2 ≤ R.log2 ∧ m * 2 ^ (R.log2 - m.log2) ≤ R := by
  have R0 : R ≠ 0 := by omega
  have hl := log2_lt R0 hR
  have h1 : m.log2 ≤ R.log2 := by
    have h2 : 2 ^ m.log2 ≤ R := Nat.le_trans (Nat.log2_self_le hm) hle
    exact (Nat.le_log2 R0).2 h2
  refine ⟨h1, ?_⟩
  have e : m * 2 ^ (52 - m.log2) = m * 2 ^ (R.log2 - m.log2) * 2 ^ (52 - R.log2) := by
    rw [Nat.mul_assoc, ← Nat.pow_add]; congr 2; omega
  rw [e] at hc
  exact Nat.le_of_mul_le_mul_right hc (Nat.two_pow_pos _)

theorem round_lt {R m : Nat} (hm : m ≠ 0) (hR : R < 2 ^ 53) (hle : m ≤ R) (hc : R * 2 ^ (52 - R.log2) < m * 2 ^ (52 - m.log2)) :
    m.log2 + 1 ≤ R.log2 ∧ m * 2 ^ (R.log2 - m.log2 - 1) ≤ R := by
  have R0 : R ≠ 0 := by omega
  have hl := log2_lt R0 hR
  have h1 : m.log2 ≤ R.log2 := by
    have h2 : 2 ^ m.log2 ≤ R := Nat.le_trans (Nat.log2_self_le hm) hle
    exact (Nat.le_log2 R0).2 h2
  have h3 : m.log2 ≠ R.log2 := by
    intro e
    rw [e] at hc
    have := Nat.lt_of_mul_lt_mul_right hc
    omega
  refine ⟨by omega, ?_⟩
  have h4 : m < 2 ^ (m.log2 + 1) := Nat.lt_log2_self
  calc m * 2 ^ (R.log2 - m.log2 - 1) ≤ 2 ^ (m.log2 + 1) * 2 ^ (R.log2 - m.log2 - 1) := Nat.mul_le_mul_right _ (Nat.le_of_lt h4)
    _ = 2 ^ R.log2 := by rw [← Nat.pow_add]; congr 1; omega
    _ ≤ R := Nat.log2_self_le R0

/-- What a slot's float stands for. -/
def meas : Value → Nat
  | .float _ b => (((double.read b).toInt .zero).getD 0).toNat
  | _ => 0

theorem meas_FB {R : Nat} (h : R < 2 ^ 53) : meas (.float .f64 (FB R)) = R := by
  simp [meas, toInt_num (num_FB h), sg]

theorem order_lt {a b : Nat} (ha : a < 2 ^ 53) (hb : b < 2 ^ 53) (h : a < b) : FloatKind.f64.format.order (FB a) (FB b) = some .lt := by
  rw [fmt64, order_num (num_FB ha) (num_FB hb), compare_lt_of (by simp [sg]; omega)]
theorem order_gt {a b : Nat} (ha : a < 2 ^ 53) (hb : b < 2 ^ 53) (h : b < a) : FloatKind.f64.format.order (FB a) (FB b) = some .gt := by
  rw [fmt64, order_num (num_FB ha) (num_FB hb), compare_gt_of (by simp [sg]; omega)]

theorem order_ge {a b : Nat} (ha : a < 2 ^ 53) (hb : b < 2 ^ 53) (h : b ≤ a) : (FloatKind.f64.format.order (FB a) (FB b) == some .gt || FloatKind.f64.format.order (FB a) (FB b) == some .eq) = true := by
  by_cases e : a = b
  · subst e; rw [order_self (num_FB ha)]; rfl
  · rw [order_gt ha hb (by omega)]; rfl

theorem frac_lt {a b : Nat} (a0 : a ≠ 0) (ha : a < 2 ^ 53) (b0 : b ≠ 0) (hb : b < 2 ^ 53) (h : a * 2 ^ (52 - a.log2) < b * 2 ^ (52 - b.log2)) : (FloatKind.f64.format.order (FR a) (FR b) == some .lt) = true := by
  rw [fmt64, order_FR a0 ha b0 hb, compare_lt_of (by exact_mod_cast h)]; rfl
theorem frac_ge {a b : Nat} (a0 : a ≠ 0) (ha : a < 2 ^ 53) (b0 : b ≠ 0) (hb : b < 2 ^ 53) (h : b * 2 ^ (52 - b.log2) ≤ a * 2 ^ (52 - a.log2)) : (FloatKind.f64.format.order (FR a) (FR b) == some .lt) = false := by
  rw [fmt64, order_FR a0 ha b0 hb]
  generalize a * 2 ^ (52 - a.log2) = x at *
  generalize b * 2 ^ (52 - b.log2) = y at *
  by_cases e : x = y
  · subst e; rw [compare_eq_of]; rfl
  · rw [compare_gt_of (by omega)]; rfl

theorem neg_FB {n : Nat} (h : n < 2 ^ 53) : Op.negFloat .f64 (FB n) = NB n := by
  have hl := FB_lt' h
  have e : Op.negFloat .f64 (FB n) = FB n ^^^ 9223372036854775808 := rfl
  rw [e, NB_eq, Nat.xor_comm]
  have h1 : (9223372036854775808 : Nat) ^^^ FB n = 9223372036854775808 ||| FB n := by
    apply Nat.eq_of_testBit_eq
    intro i
    rw [Nat.testBit_xor, Nat.testBit_or, show (9223372036854775808 : Nat) = 2 ^ 63 from rfl, Nat.testBit_two_pow]
    by_cases hi : 63 = i
    · subst hi
      have : (FB n).testBit 63 = false := Nat.testBit_lt_two_pow hl
      rw [this]; rfl
    · simp [hi]
  rw [h1, nat_join 63 _ _ (by decide) hl]

theorem neg_NB {n : Nat} (h : n < 2 ^ 53) : Op.negFloat .f64 (NB n) = FB n := by
  rw [← neg_FB h]
  have e : ∀ b, Op.negFloat .f64 b = b ^^^ 9223372036854775808 := fun _ => rfl
  rw [e, e, Nat.xor_assoc, Nat.xor_self, Nat.xor_zero]
end Fl

theorem Ldexp_z (n k : Nat) (z : Int) (w : World) (hz : z = k) (h0 : n ≠ 0) (h : n * 2 ^ k < 2 ^ 53) (hn : n < 2 ^ 53) (hk : k ≤ 52) :
    Calls Yba.prog 14 #[.float .f64 (Fl.FB n), .int .i64 z] w fun e w' => e = .returned (.float .f64 (Fl.FB (n * 2 ^ k))) ∧ w' = w := by
  subst hz; exact Ldexp_any n k w h0 h hn hk

theorem mod_sub {R m e : Nat} (h : m * 2 ^ e ≤ R) : (R - m * 2 ^ e) % m = R % m := by
  rw [← Nat.add_mul_mod_self_left (R - m * 2 ^ e) m (2 ^ e), Nat.sub_add_cancel h]

set_option maxHeartbeats 800000 in
theorem mod_pos (K m : Nat) (w : World) (hK : K < 2 ^ 53) (m0 : m ≠ 0) (hm : m < 2 ^ 53) :
    Calls Yba.prog 8 #[.float .f64 (Fl.FB K), .float .f64 (Fl.FB m)] w fun e w' => e = .returned (.float .f64 (Fl.FB (K % m))) ∧ w' = w := by
  have hz := order_zero (Fl.num_FB hm) m0
  have hx : (FloatKind.f64.format.order (Fl.FB K) 0 == some .lt) = false := by
    have hz' : Fl.Num 0 false 0 := Fl.num_FB (n := 0) (by decide)
    rw [Fl.fmt64, Fl.order_num (Fl.num_FB hK) hz']
    by_cases e : K = 0
    · subst e; rfl
    · rw [Fl.compare_gt_of (by simp [Fl.sg]; omega)]; rfl
  have hlm := Fl.log2_lt m0 hm
  have hsK := order_self (Fl.num_FB hK)
  have hsm := order_self (Fl.num_FB hm)
  go_enter Yba.func8, Yba.ntmps8
  go_wp2_with (first | (go_at_call 9; refine (inf_pos K _ hK).mono ?_; rintro e w' ⟨rfl, rfl⟩) | (go_at_call 10; refine (nan_no _ _ (by first | exact hsK | exact hsm)).mono ?_; rintro e w' ⟨rfl, rfl⟩) | (go_at_call 12; refine (abs_pos m _ hm).mono ?_; rintro e w' ⟨rfl, rfl⟩) | (go_at_call 13; refine (Frexp_any m _ m0 hm).mono ?_; rintro e w' ⟨rfl, rfl⟩))
  go_loop [7] (fun r => ∃ R : Nat, R ≤ K ∧ Hid (R % m = K % m) ∧ r = .float .f64 (Fl.FB R)) (fun r => Fl.meas r)
  case atStart => exact ⟨K, Nat.le_refl _, (rfl : K % m = K % m), rfl⟩
  case round =>
    obtain ⟨R, hR, hmod, rfl⟩ := hrel
    have hRb : R < 2 ^ 53 := by omega
    by_cases hlt : R < m
    · have ho := Fl.order_lt hRb hm hlt
      go_wp2
      go_ret
      exact ⟨ret_float (by rw [← hmod.out, Nat.mod_eq_of_lt hlt]), rfl⟩
    · have ho := Fl.order_ge hRb hm (Nat.le_of_not_lt hlt)
      have R0 : R ≠ 0 := by omega
      have hlR := Fl.log2_lt R0 hRb
      by_cases hc : R * 2 ^ (52 - R.log2) < m * 2 ^ (52 - m.log2)
      · have hf := Fl.frac_lt R0 hRb m0 hm hc
        obtain ⟨hl1, hl2⟩ := Fl.round_lt m0 hRb (Nat.le_of_not_lt hlt) hc
        have hp : 0 < m * 2 ^ (R.log2 - m.log2 - 1) := Nat.mul_pos (by omega) (Nat.two_pow_pos _)
        have hs := fun w => run_float_arith (P := Yba.prog) w .sub 24 .f64 (Fl.FB R) (Fl.FB (m * 2 ^ (R.log2 - m.log2 - 1))) _ (Fl.sub_num (Fl.num_FB hRb) (Fl.num_FB (by omega)) hl2 hRb)
        have hfin := mod_sub hl2
        have Hfin : Hid ((R - m * 2 ^ (R.log2 - m.log2 - 1)) % m = K % m) := hfin.trans hmod.out
        clear hfin hc
        go_wp2_with (first | (go_at_call 13; refine (Frexp_any R _ R0 hRb).mono ?_; rintro e w' ⟨rfl, rfl⟩) | (go_at_call 14; refine (Ldexp_z m (R.log2 - m.log2 - 1) _ _ (by omega) m0 (by omega) hm (by omega)).mono ?_; rintro e w' ⟨rfl, rfl⟩))
        go_round
        case rel => exact ⟨_, by omega, Hfin, rfl⟩
        case measure => rw [Fl.meas_FB hRb]; show Fl.meas (.float .f64 (Fl.FB _)) < R; rw [Fl.meas_FB (by omega)]; omega
      · have hf := Fl.frac_ge R0 hRb m0 hm (Nat.le_of_not_lt hc)
        obtain ⟨hl1, hl2⟩ := Fl.round_ge m0 hRb (Nat.le_of_not_lt hlt) (Nat.le_of_not_lt hc)
        have hp : 0 < m * 2 ^ (R.log2 - m.log2) := Nat.mul_pos (by omega) (Nat.two_pow_pos _)
        have hs := fun w => run_float_arith (P := Yba.prog) w .sub 24 .f64 (Fl.FB R) (Fl.FB (m * 2 ^ (R.log2 - m.log2))) _ (Fl.sub_num (Fl.num_FB hRb) (Fl.num_FB (by omega)) hl2 hRb)
        have hfin := mod_sub hl2
        have Hfin : Hid ((R - m * 2 ^ (R.log2 - m.log2)) % m = K % m) := hfin.trans hmod.out
        clear hfin hc
        go_wp2_with (first | (go_at_call 13; refine (Frexp_any R _ R0 hRb).mono ?_; rintro e w' ⟨rfl, rfl⟩) | (go_at_call 14; refine (Ldexp_z m (R.log2 - m.log2) _ _ (by omega) m0 (by omega) hm (by omega)).mono ?_; rintro e w' ⟨rfl, rfl⟩))
        go_round
        case rel => exact ⟨_, by omega, Hfin, rfl⟩
        case measure => rw [Fl.meas_FB hRb]; show Fl.meas (.float .f64 (Fl.FB _)) < R; rw [Fl.meas_FB (by omega)]; omega

set_option maxHeartbeats 800000 in
theorem mod_neg (K m : Nat) (w : World) (K0 : K ≠ 0) (hK : K < 2 ^ 53) (m0 : m ≠ 0) (hm : m < 2 ^ 53) :
    Calls Yba.prog 8 #[.float .f64 (Fl.NB K), .float .f64 (Fl.FB m)] w fun e w' => e = .returned (.float .f64 (Fl.NB (K % m))) ∧ w' = w := by
  have hz := order_zero (Fl.num_FB hm) m0
  have hx : (FloatKind.f64.format.order (Fl.NB K) 0 == some .lt) = true := by
    have hz' : Fl.Num 0 false 0 := Fl.num_FB (n := 0) (by decide)
    rw [Fl.fmt64, Fl.order_num (Fl.num_NB hK) hz', Fl.compare_lt_of (by simp [Fl.sg]; omega)]; rfl
  have hn1 : ∀ w, (Op.unary .neg (.float .f64 (Fl.NB K))).run Yba.prog w = .ok (.float .f64 (Fl.FB K)) w := by
    intro w
    rw [← Fl.neg_NB hK]; rfl
  have hlm := Fl.log2_lt m0 hm
  have hsK := order_self (Fl.num_NB hK)
  have hsm := order_self (Fl.num_FB hm)
  go_enter Yba.func8, Yba.ntmps8
  go_wp2_with (first | (go_at_call 9; refine (inf_neg K _ hK).mono ?_; rintro e w' ⟨rfl, rfl⟩) | (go_at_call 10; refine (nan_no _ _ (by first | exact hsK | exact hsm)).mono ?_; rintro e w' ⟨rfl, rfl⟩) | (go_at_call 12; refine (abs_pos m _ hm).mono ?_; rintro e w' ⟨rfl, rfl⟩) | (go_at_call 13; refine (Frexp_any m _ m0 hm).mono ?_; rintro e w' ⟨rfl, rfl⟩))
  go_loop [7] (fun r => ∃ R : Nat, R ≤ K ∧ Hid (R % m = K % m) ∧ r = .float .f64 (Fl.FB R)) (fun r => Fl.meas r)
  case atStart => exact ⟨K, Nat.le_refl _, (rfl : K % m = K % m), rfl⟩
  case round =>
    obtain ⟨R, hR, hmod, rfl⟩ := hrel
    have hRb : R < 2 ^ 53 := by omega
    by_cases hlt : R < m
    · have ho := Fl.order_lt hRb hm hlt
      have hn2 : ∀ w, (Op.unary .neg (.float .f64 (Fl.FB R))).run Yba.prog w = .ok (.float .f64 (Fl.NB R)) w := by
        intro w
        rw [← Fl.neg_FB hRb]; rfl
      go_wp2
      go_ret
      exact ⟨ret_float (by rw [← hmod.out, Nat.mod_eq_of_lt hlt]), rfl⟩
    · have ho := Fl.order_ge hRb hm (Nat.le_of_not_lt hlt)
      have R0 : R ≠ 0 := by omega
      have hlR := Fl.log2_lt R0 hRb
      by_cases hc : R * 2 ^ (52 - R.log2) < m * 2 ^ (52 - m.log2)
      · have hf := Fl.frac_lt R0 hRb m0 hm hc
        obtain ⟨hl1, hl2⟩ := Fl.round_lt m0 hRb (Nat.le_of_not_lt hlt) hc
        have hp : 0 < m * 2 ^ (R.log2 - m.log2 - 1) := Nat.mul_pos (by omega) (Nat.two_pow_pos _)
        have hs := fun w => run_float_arith (P := Yba.prog) w .sub 24 .f64 (Fl.FB R) (Fl.FB (m * 2 ^ (R.log2 - m.log2 - 1))) _ (Fl.sub_num (Fl.num_FB hRb) (Fl.num_FB (by omega)) hl2 hRb)
        have hfin := mod_sub hl2
        have Hfin : Hid ((R - m * 2 ^ (R.log2 - m.log2 - 1)) % m = K % m) := hfin.trans hmod.out
        clear hfin hc
        go_wp2_with (first | (go_at_call 13; refine (Frexp_any R _ R0 hRb).mono ?_; rintro e w' ⟨rfl, rfl⟩) | (go_at_call 14; refine (Ldexp_z m (R.log2 - m.log2 - 1) _ _ (by omega) m0 (by omega) hm (by omega)).mono ?_; rintro e w' ⟨rfl, rfl⟩))
        go_round
        case rel => exact ⟨_, by omega, Hfin, rfl⟩
        case measure => rw [Fl.meas_FB hRb]; show Fl.meas (.float .f64 (Fl.FB _)) < R; rw [Fl.meas_FB (by omega)]; omega
      · have hf := Fl.frac_ge R0 hRb m0 hm (Nat.le_of_not_lt hc)
        obtain ⟨hl1, hl2⟩ := Fl.round_ge m0 hRb (Nat.le_of_not_lt hlt) (Nat.le_of_not_lt hc)
        have hp : 0 < m * 2 ^ (R.log2 - m.log2) := Nat.mul_pos (by omega) (Nat.two_pow_pos _)
        have hs := fun w => run_float_arith (P := Yba.prog) w .sub 24 .f64 (Fl.FB R) (Fl.FB (m * 2 ^ (R.log2 - m.log2))) _ (Fl.sub_num (Fl.num_FB hRb) (Fl.num_FB (by omega)) hl2 hRb)
        have hfin := mod_sub hl2
        have Hfin : Hid ((R - m * 2 ^ (R.log2 - m.log2)) % m = K % m) := hfin.trans hmod.out
        clear hfin hc
        go_wp2_with (first | (go_at_call 13; refine (Frexp_any R _ R0 hRb).mono ?_; rintro e w' ⟨rfl, rfl⟩) | (go_at_call 14; refine (Ldexp_z m (R.log2 - m.log2) _ _ (by omega) m0 (by omega) hm (by omega)).mono ?_; rintro e w' ⟨rfl, rfl⟩))
        go_round
        case rel => exact ⟨_, by omega, Hfin, rfl⟩
        case measure => rw [Fl.meas_FB hRb]; show Fl.meas (.float .f64 (Fl.FB _)) < R; rw [Fl.meas_FB (by omega)]; omega

set_option maxHeartbeats 400000 in
theorem Mod_pos (K m : Nat) (w : World) (hK : K < 2 ^ 53) (m0 : m ≠ 0) (hm : m < 2 ^ 53) :
    Calls Yba.prog 6 #[.float .f64 (Fl.FB K), .float .f64 (Fl.FB m)] w fun e w' => e = .returned (.float .f64 (Fl.FB (K % m))) ∧ w' = w := by
  go_enter Yba.func6, Yba.ntmps6
  go_wp2_with (go_at_call 8; refine (mod_pos K m _ hK m0 hm).mono ?_; rintro e w' ⟨rfl, rfl⟩)
  go_ret
  exact ⟨rfl, rfl⟩

set_option maxHeartbeats 400000 in
theorem Mod_neg (K m : Nat) (w : World) (K0 : K ≠ 0) (hK : K < 2 ^ 53) (m0 : m ≠ 0) (hm : m < 2 ^ 53) :
    Calls Yba.prog 6 #[.float .f64 (Fl.NB K), .float .f64 (Fl.FB m)] w fun e w' => e = .returned (.float .f64 (Fl.NB (K % m))) ∧ w' = w := by
  go_enter Yba.func6, Yba.ntmps6
  go_wp2_with (go_at_call 8; refine (mod_neg K m _ K0 hK m0 hm).mono ?_; rintro e w' ⟨rfl, rfl⟩)
  go_ret
  exact ⟨rfl, rfl⟩

theorem ofInt_pos (n : Nat) (h : n < 2 ^ 53) : floatOfInt .f64 (n : Int) = Fl.FB n := by
  have e := Fl.nearest_exact false n 0 h
  have h1 : ¬ ((n : Int) < 0) := by omega
  have e2 : floatOfInt .f64 (n : Int) = Ieee.double.nearest (decide ((n : Int) < 0)) (n : Int).natAbs 0 := rfl
  rw [e2, decide_eq_false h1, Int.natAbs_natCast]
  have e3 : Ieee.double.nearest false n 0 = Ieee.double.word false (Fl.FB n) := by simpa using e
  exact e3
theorem ofInt_neg (n : Nat) (n0 : n ≠ 0) (h : n < 2 ^ 53) : floatOfInt .f64 (-(n : Int)) = Fl.NB n := by
  have e := Fl.nearest_exact true n 0 h
  have h1 : (-(n : Int) < 0) := by omega
  have e2 : floatOfInt .f64 (-(n : Int)) = Ieee.double.nearest (decide (-(n : Int) < 0)) (-(n : Int)).natAbs 0 := rfl
  rw [e2, decide_eq_true h1, Int.natAbs_neg, Int.natAbs_natCast]
  have e3 : Ieee.double.nearest true n 0 = Ieee.double.word true (Fl.FB n) := by simpa using e
  exact e3

theorem toInt_at {b : Nat} {s : Bool} {v : Nat} (hb : Fl.Num b s v) (hv : v < 2 ^ 53) (w : World) : (convert 24 3 (.float .f64 b)).run Yba.prog w = .ok (.int .i64 (Fl.sg s v)) w := by
  refine run_convert_float_int w 24 3 .f64 .i64 b (Fl.sg s v) (by rw [Yba.underlying24]; rfl) Yba.underlying3 ?_
  have e : (FloatKind.f64.decode b).toInt .zero = some (Fl.sg s v) := Fl.toInt_num hb
  unfold floatToIntVal
  rw [e]
  have h1 : IntKind.i64.min = -9223372036854775808 := by decide
  have h2 : IntKind.i64.max = 9223372036854775807 := by decide
  simp only [h1, h2]
  have h3 : (-9223372036854775808 : Int) ≤ Fl.sg s v ∧ Fl.sg s v ≤ 9223372036854775807 := by
    unfold Fl.sg; cases s <;> simp <;> omega
  rw [if_pos h3]

set_option maxHeartbeats 400000 in
theorem nmod_pos (K m : Nat) (w : World) (hK : K < 2 ^ 53) (m0 : m ≠ 0) (hm : m ≤ 65536) :
    Calls Yba.prog 5 #[.float .f64 (Fl.FB K), .int .i64 m] w fun e w' => e = .returned (.int .i64 (K % m : Nat)) ∧ w' = w := by
  have hf := ofInt_pos m (by omega)
  have hr : K % m < 2 ^ 53 := Nat.lt_of_le_of_lt (Nat.mod_le _ _) hK
  generalize hrr : K % m = r at *
  have Hr : Hid (K % m = r) := hrr
  clear hrr
  have hx : (FloatKind.f64.format.order (Fl.FB r) 0 == some .lt) = false := by
    have hz' : Fl.Num 0 false 0 := Fl.num_FB (n := 0) (by decide)
    rw [Fl.fmt64, Fl.order_num (Fl.num_FB hr) hz']
    by_cases e : r = 0
    · subst e; rfl
    · rw [Fl.compare_gt_of (by simp [Fl.sg]; omega)]; rfl
  have hc := fun w => toInt_at (Fl.num_FB hr) hr w
  go_enter Yba.func5, Yba.ntmps5
  go_wp2_with (go_at_call 6; refine (Mod_pos K m _ hK m0 (by omega)).mono ?_; rintro e w' ⟨rfl, rfl⟩; rw [Hr.out])
  go_ret
  exact ⟨rfl, rfl⟩

set_option maxHeartbeats 400000 in
theorem nmod_neg0 (K m : Nat) (w : World) (K0 : K ≠ 0) (hK : K < 2 ^ 53) (m0 : m ≠ 0) (hm : m ≤ 65536) (h0 : K % m = 0) :
    Calls Yba.prog 5 #[.float .f64 (Fl.NB K), .int .i64 m] w fun e w' => e = .returned (.int .i64 0) ∧ w' = w := by
  have hf := ofInt_pos m (by omega)
  have Hr : Hid (K % m = 0) := h0
  clear h0
  have hx : (FloatKind.f64.format.order (Fl.NB 0) 0 == some .lt) = false := by kernel_rfl
  have hc := fun w => toInt_at (Fl.num_NB (n := 0) (by decide)) (by decide) w
  go_enter Yba.func5, Yba.ntmps5
  go_wp2_with (go_at_call 6; refine (Mod_neg K m _ K0 hK m0 (by omega)).mono ?_; rintro e w' ⟨rfl, rfl⟩; rw [Hr.out])
  go_ret
  exact ⟨rfl, rfl⟩

set_option maxHeartbeats 400000 in
theorem nmod_neg (K m r : Nat) (w : World) (K0 : K ≠ 0) (hK : K < 2 ^ 53) (m0 : m ≠ 0) (hm : m ≤ 65536) (h0 : K % m = r) (r0 : r ≠ 0) (hr : r < m) :
    Calls Yba.prog 5 #[.float .f64 (Fl.NB K), .int .i64 m] w fun e w' => e = .returned (.int .i64 (m - r : Nat)) ∧ w' = w := by
  have hf := ofInt_pos m (by omega)
  have Hr : Hid (K % m = r) := h0
  clear h0
  have hrb : r < 2 ^ 53 := by omega
  have hx : (FloatKind.f64.format.order (Fl.NB r) 0 == some .lt) = true := by
    have hz' : Fl.Num 0 false 0 := Fl.num_FB (n := 0) (by decide)
    rw [Fl.fmt64, Fl.order_num (Fl.num_NB hrb) hz', Fl.compare_lt_of (by simp [Fl.sg]; omega)]; rfl
  have ha : Ieee.double.add (Fl.NB r) (Fl.FB m) = some (Ieee.double.word false (Fl.FB (m - r))) := by
    refine Fl.add_num (Fl.num_NB hrb) (Fl.num_FB (by omega)) (by omega) ?_ ?_
    · simp [Fl.sg]; omega
    · have e1 : ¬ Fl.sg false (m - r) = 0 := by simp [Fl.sg]; omega
      have e2 : ¬ Fl.sg false (m - r) < 0 := by simp [Fl.sg]
      rw [if_neg e1, decide_eq_false e2]
  have hs := fun w => run_float_arith (P := Yba.prog) w .add 24 .f64 (Fl.NB r) (Fl.FB m) (Fl.FB (m - r)) ha
  have hc := fun w => toInt_at (Fl.num_FB (n := m - r) (by omega)) (by omega) w
  clear ha
  go_enter Yba.func5, Yba.ntmps5
  go_wp2_with (go_at_call 6; refine (Mod_neg K m _ K0 hK m0 (by omega)).mono ?_; rintro e w' ⟨rfl, rfl⟩; rw [Hr.out])
  go_ret
  exact ⟨rfl, rfl⟩
end Go.Proofs.Ybulkbdna
