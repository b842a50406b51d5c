/-
  THE WALKS of package math's Abs, IsInf, IsNaN, normalize, Frexp, Ldexp at the words of whole numbers below 2^53.
-/
import Derived.Test.YbulkbdnaRows
import Derived.WalkKit
import Derived.WalkSpells
import Derived.WalkLawsBesides
import Derived.Laws.FloatArith
import Derived.Laws.Externs
import Derived.Test.YbulkbdnaBits
namespace Go.Proofs.Ybulkbdna
open Go.RowKit

theorem fbits (b : Nat) (w : World) : (callFunc 16 #[.float .f64 b]).run Yba.prog w = .ok (.value (.int .u64 b)) w := by
  rw [run_callFunc_extern Yba.func16 (by kernel_rfl) (by kernel_rfl) (by kernel_rfl) (e := Extern.MathFloatBits.float64bits) (by kernel_rfl)]
  rfl
theorem ffrom (b : Int) (w : World) : (callFunc 15 #[.int .u64 b]).run Yba.prog w = .ok (.value (.float .f64 b.toNat)) w := by
  rw [run_callFunc_extern Yba.func15 (by kernel_rfl) (by kernel_rfl) (by kernel_rfl) (e := Extern.MathFloatBits.float64frombits) (by kernel_rfl)]
  rfl
theorem ret_pair {f : Nat} {a b : Int} (h : a = b) : Ending.returned (.tuple #[.float .f64 f, .int .i64 a]) = .returned (.tuple #[.float .f64 f, .int .i64 b]) := by rw [h]
theorem ret_float {a b : Nat} (h : a = b) : Ending.returned (.float .f64 a) = .returned (.float .f64 b) := by rw [h]

set_option maxHeartbeats 400000 in
theorem abs_at (b c : Nat) (w : World) (hb : bits .andNot .u64 (b : Int) 9223372036854775808 = (c : Int)) :
    Calls Yba.prog 12 #[.float .f64 b] w fun e w' => e = .returned (.float .f64 c) ∧ w' = w := by
  have h1 := fbits
  have h2 := ffrom
  go_enter Yba.func12, Yba.ntmps12
  go_wp2
  go_ret
  exact ⟨rfl, rfl⟩

theorem abs_pos (n : Nat) (w : World) (h : n < 2 ^ 53) :
    Calls Yba.prog 12 #[.float .f64 (Fl.FB n)] w fun e w' => e = .returned (.float .f64 (Fl.FB n)) ∧ w' = w :=
  abs_at _ _ w (Fl.clear_sign _ (Fl.FB_lt' h))

theorem abs_neg (n : Nat) (w : World) (h : n < 2 ^ 53) :
    Calls Yba.prog 12 #[.float .f64 (Fl.NB n)] w fun e w' => e = .returned (.float .f64 (Fl.FB n)) ∧ w' = w :=
  abs_at _ _ w (by rw [Fl.NB_eq]; exact Fl.clear_sign_neg _ (Fl.FB_lt' h))

set_option maxHeartbeats 400000 in
theorem nan_no (b : Nat) (w : World) (h : FloatKind.f64.format.order b b = some .eq) :
    Calls Yba.prog 10 #[.float .f64 b] w fun e w' => e = .returned (.bool false) ∧ w' = w := by
  go_enter Yba.func10, Yba.ntmps10
  go_wp2
  go_ret
  exact ⟨rfl, rfl⟩

set_option maxHeartbeats 400000 in
theorem inf_at (b c : Nat) (w : World) (ha : Hid (Calls Yba.prog 12 #[.float .f64 b] w fun e w' => e = .returned (.float .f64 c) ∧ w' = w)) (h : (FloatKind.f64.format.order c 9218868437227405311 == some .gt) = false) :
    Calls Yba.prog 9 #[.float .f64 b, .int .i64 0] w fun e w' => e = .returned (.bool false) ∧ w' = w := by
  go_enter Yba.func9, Yba.ntmps9
  go_wp2_with (go_at_call 12; refine ha.out.mono ?_; rintro e w' ⟨rfl, rfl⟩)
  go_ret
  exact ⟨rfl, rfl⟩

theorem inf_pos (n : Nat) (w : World) (h : n < 2 ^ 53) :
    Calls Yba.prog 9 #[.float .f64 (Fl.FB n), .int .i64 0] w fun e w' => e = .returned (.bool false) ∧ w' = w :=
  inf_at _ _ w (abs_pos n w h) (Fl.order_max (Fl.num_FB h) h)
theorem inf_neg (n : Nat) (w : World) (h : n < 2 ^ 53) :
    Calls Yba.prog 9 #[.float .f64 (Fl.NB n), .int .i64 0] w fun e w' => e = .returned (.bool false) ∧ w' = w :=
  inf_at _ _ w (abs_neg n w h) (Fl.order_max (Fl.num_FB h) h)

theorem order_self {b v : Nat} {s : Bool} (h : Fl.Num b s v) : FloatKind.f64.format.order b b = some .eq := by
  rw [Fl.fmt64, Fl.order_num h h, Fl.compare_eq_of]

theorem order_zero {b v : Nat} (h : Fl.Num b false v) (h0 : v ≠ 0) : FloatKind.f64.format.order b 0 = some .gt := by
  have hz : Fl.Num 0 false 0 := Fl.num_FB (n := 0) (by decide)
  rw [Fl.fmt64, Fl.order_num h hz, Fl.compare_gt_of (by simp [Fl.sg]; omega)]

set_option maxHeartbeats 400000 in
theorem norm_no (n : Nat) (w : World) (h0 : n ≠ 0) (h : n < 2 ^ 53) :
    Calls Yba.prog 21 #[.float .f64 (Fl.FB n)] w fun e w' => e = .returned (.tuple #[.float .f64 (Fl.FB n), .int .i64 0]) ∧ w' = w := by
  have hl : (FloatKind.f64.format.order (Fl.FB n) 4503599627370496 == some .lt) = false := Fl.order_least (Fl.num_FB h) h0
  go_enter Yba.func21, Yba.ntmps21
  go_wp2_with (go_at_call 12; refine (abs_pos n _ h).mono ?_; rintro e w' ⟨rfl, rfl⟩)
  go_ret2
  exact ⟨rfl, rfl⟩

set_option maxHeartbeats 400000 in
theorem frexp_any (n : Nat) (w : World) (h0 : n ≠ 0) (h : n < 2 ^ 53) :
    Calls Yba.prog 18 #[.float .f64 (Fl.FB n)] w fun e w' => e = .returned (.tuple #[.float .f64 (Fl.FR n), .int .i64 (n.log2 + 1)]) ∧ w' = w := by
  have hz := order_zero (Fl.num_FB h) h0
  have hl := Fl.log2_lt h0 h
  have h1 := fbits
  have h2 := ffrom
  have h3 := Fl.exp_bits h0 h
  have h4 := Fl.frac_bits h0 h
  go_enter Yba.func18, Yba.ntmps18
  go_wp2_with (first | (go_at_call 9; refine (inf_pos n _ h).mono ?_; rintro e w' ⟨rfl, rfl⟩) | (go_at_call 10; refine (nan_no _ _ (order_self (Fl.num_FB h))).mono ?_; rintro e w' ⟨rfl, rfl⟩) | (go_at_call 21; refine (norm_no n _ h0 h).mono ?_; rintro e w' ⟨rfl, rfl⟩))
  go_ret2
  exact ⟨ret_pair (by omega), rfl⟩

set_option maxHeartbeats 400000 in
theorem Frexp_any (n : Nat) (w : World) (h0 : n ≠ 0) (h : n < 2 ^ 53) :
    Calls Yba.prog 13 #[.float .f64 (Fl.FB n)] w fun e w' => e = .returned (.tuple #[.float .f64 (Fl.FR n), .int .i64 (n.log2 + 1)]) ∧ w' = w := by
  go_enter Yba.func13, Yba.ntmps13
  go_wp2_with (go_at_call 18; refine (frexp_any n _ h0 h).mono ?_; rintro e w' ⟨rfl, rfl⟩)
  go_ret2
  exact ⟨rfl, rfl⟩

set_option maxHeartbeats 400000 in
theorem ldexp_any (n k : Nat) (w : World) (h0 : n ≠ 0) (h : n * 2 ^ k < 2 ^ 53) (hn : n < 2 ^ 53) (hk : k ≤ 52) :
    Calls Yba.prog 20 #[.float .f64 (Fl.FB n), .int .i64 k] w fun e w' => e = .returned (.float .f64 (Fl.FB (n * 2 ^ k))) ∧ w' = w := by
  have hz := order_zero (Fl.num_FB hn) h0
  have hl := Fl.log2_lt h0 hn
  have h1 := fbits
  have h2 := ffrom
  have h3 := Fl.exp_div h0 hn
  have h4 := Fl.exp_and h0 hn
  have h5 := Fl.scale_bits h0 hn h
  have h6 := fun w => run_float_arith (P := Yba.prog) w .mul 24 .f64 4607182418800017408 (Fl.FB (n * 2 ^ k)) (Fl.FB (n * 2 ^ k)) (Fl.one_mul_num h)
  go_enter Yba.func20, Yba.ntmps20
  go_wp2_with (first | (go_at_call 9; refine (inf_pos n _ hn).mono ?_; rintro e w' ⟨rfl, rfl⟩) | (go_at_call 10; refine (nan_no _ _ (order_self (Fl.num_FB hn))).mono ?_; rintro e w' ⟨rfl, rfl⟩) | (go_at_call 21; refine (norm_no n _ h0 hn).mono ?_; rintro e w' ⟨rfl, rfl⟩))
  go_ret
  exact ⟨rfl, rfl⟩

set_option maxHeartbeats 400000 in
theorem Ldexp_any (n k : Nat) (w : World) (h0 : n ≠ 0) (h : n * 2 ^ k < 2 ^ 53) (hn : n < 2 ^ 53) (hk : k ≤ 52) :
    Calls Yba.prog 14 #[.float .f64 (Fl.FB n), .int .i64 k] w fun e w' => e = .returned (.float .f64 (Fl.FB (n * 2 ^ k))) ∧ w' = w := by
  go_enter Yba.func14, Yba.ntmps14
  go_wp2_with (go_at_call 20; refine (ldexp_any n k _ h0 h hn hk).mono ?_; rintro e w' ⟨rfl, rfl⟩)
  go_ret
  exact ⟨rfl, rfl⟩
end Go.Proofs.Ybulkbdna
