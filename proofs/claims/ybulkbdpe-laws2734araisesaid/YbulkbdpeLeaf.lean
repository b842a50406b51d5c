/-
  THE LEAVES: cmp.Compare, byVersion, and the times.
-/
import Derived.Test.YbulkbdpeRows
import Derived.WalkKit
import Derived.ProofKit
import Derived.OpenShut
import Derived.Below
import Derived.OwnWalk
import Derived.IntWalk
import Derived.Laws.Bits64b
import Derived.WalkSpells
import Derived.WalkLawsBesides
import Derived.Deep.QuietTactic
import Derived.BigQuiet
import Derived.Deep.RegionHeld3
import Derived.Deep.DeepCutAuto
import Derived.Deep.CutRange
import Derived.Deep.LoopGhost
import Derived.Handy
namespace Go.Proofs.Ybulkbdpe
open Go.RowKit
set_option linter.unusedVariables false

theorem isNaN (x : Int) (w : World) : Calls Yba.prog 22 #[.int .u64 x] w fun e w' => e = .returned (.bool false) ∧ w' = w := by
  go_enter Yba.func22, Yba.ntmps22
  go_wp2
  go_ret
  exact ⟨rfl, rfl⟩

def cmpI (x y : Int) : Int := if x < y then -1 else if y < x then 1 else 0

theorem compare (x y : Int) (w : World) : Calls Yba.prog 21 #[.int .u64 x, .int .u64 y] w fun e w' => e = .returned (.int .i64 (cmpI x y)) ∧ w' = w := by
  unfold cmpI
  by_cases h : x < y
  · rw [if_pos h]
    go_enter Yba.func21, Yba.ntmps21
    go_wp2_with (first | (go_at_call 22; refine (isNaN _ _).mono ?_; rintro e w' ⟨rfl, rfl⟩))
    go_ret
    exact ⟨rfl, rfl⟩
  · rw [if_neg h]
    by_cases h2 : y < x
    · rw [if_pos h2]
      go_enter Yba.func21, Yba.ntmps21
      go_wp2_with (first | (go_at_call 22; refine (isNaN _ _).mono ?_; rintro e w' ⟨rfl, rfl⟩))
      go_ret
      exact ⟨rfl, rfl⟩
    · rw [if_neg h2]
      go_enter Yba.func21, Yba.ntmps21
      go_wp2_with (first | (go_at_call 22; refine (isNaN _ _).mono ?_; rintro e w' ⟨rfl, rfl⟩))
      go_ret
      exact ⟨rfl, rfl⟩

theorem byVersion (x wl ex y : Int) (w : World) : Calls Yba.prog 12 #[.agg #[.int .u64 x, .int .u64 wl, .int .i64 ex, .pointer none], .int .u64 y] w fun e w' => e = .returned (.int .i64 (cmpI x y)) ∧ Below w.heap.size w w' := by
  go_enter Yba.func12, Yba.ntmps12
  go_wp2_with (first | (go_at_call 21; refine (compare _ _ _).mono ?_; rintro e w' ⟨rfl, rfl⟩))
  go_ret
  exact ⟨rfl, (Below.refl _ _).alloc (Nat.le_refl _) _⟩

/-- The time k nanoseconds behind the zero time, as it lies in memory. -/
def tm (k : Nat) : Value := .agg #[.int .u64 k, .int .i64 0, .pointer none]

theorem and_top (k : Nat) (h : k ≤ 1024) : bits .and .u64 (k : Int) 9223372036854775808 = 0 := by
  have e : k &&& 9223372036854775807 = k := by rw [show (9223372036854775807 : Nat) = 2 ^ 63 - 1 from rfl, Nat.and_two_pow_sub_one_eq_mod, Nat.mod_eq_of_lt (by omega)]
  have e2 : k &&& 9223372036854775808 = 0 := by rw [← e, Nat.and_assoc, show (9223372036854775807 : Nat) &&& 9223372036854775808 = 0 by decide, Nat.and_zero]
  rw [show (9223372036854775808 : Int) = ((9223372036854775808 : Nat) : Int) from rfl, bits_and_u64_nat k 9223372036854775808 (by omega) (by omega), e2]
  rfl
theorem and_low (k : Nat) (h : k ≤ 1024) : bits .and .u64 (k : Int) 1073741823 = (k : Int) := by
  rw [show (1073741823 : Int) = ((1073741823 : Nat) : Int) from rfl, bits_and_u64_nat k 1073741823 (by omega) (by omega), show (1073741823 : Nat) = 2 ^ 30 - 1 from rfl, Nat.and_two_pow_sub_one_eq_mod, Nat.mod_eq_of_lt (by omega)]
theorem and_same (k : Nat) (h : k ≤ 1024) : bits .and .u64 (k : Int) (k : Int) = (k : Int) := by
  rw [bits_and_u64_nat k k (by omega) (by omega), Nat.and_self]
theorem or_zero (k : Nat) (h : k ≤ 1024) : bits .or .u64 0 (k : Int) = (k : Int) := by
  rw [show (0 : Int) = ((0 : Nat) : Int) from rfl, bits_or_u64_nat 0 k (by omega) (by omega), Nat.zero_or]
theorem andNot_zero : bits .andNot .u64 0 1073741823 = 0 := by decide

theorem nsec (a : Addr) (k : Nat) (w : World) (hk : k ≤ 1024) (h0 : w.cell? a = some (.int .u64 k)) : Calls Yba.prog 17 #[.pointer (some a)] w fun e w' => e = .returned (.int .i32 k) ∧ w' = w := by
  have e1 := and_low k hk
  go_enter Yba.func17, Yba.ntmps17
  go_wp2
  go_ret
  exact ⟨rfl, rfl⟩

theorem nsec0 (a : Addr) (w : World) (h0 : w.cell? a = some (.int .u64 0)) : Calls Yba.prog 17 #[.pointer (some a)] w fun e w' => e = .returned (.int .i32 0) ∧ w' = w :=
  nsec a 0 w (by omega) h0

theorem sec (b o k : Nat) (w : World) (hk : k ≤ 1024) (h0 : w.cell? ⟨b, o, none⟩ = some (.int .u64 k)) (h1 : w.cell? ⟨b, o + 1, none⟩ = some (.int .i64 0)) : Calls Yba.prog 16 #[.pointer (some ⟨b, o, none⟩)] w fun e w' => e = .returned (.int .i64 0) ∧ w' = w := by
  have e1 := and_top k hk
  go_enter Yba.func16, Yba.ntmps16
  go_wp2
  go_ret
  exact ⟨rfl, rfl⟩


theorem addSec (b o k : Nat) (w : World) (hk : k ≤ 1024) (h0 : w.cell? ⟨b, o, none⟩ = some (.int .u64 k)) (h1 : w.cell? ⟨b, o + 1, none⟩ = some (.int .i64 0)) (hf : w.frozen? ⟨b, o + 1, none⟩ = false) : Calls Yba.prog 19 #[.pointer (some ⟨b, o, none⟩), .int .i64 0] w fun e w' => e = .returned (.tuple #[]) ∧ w' = w.setCell ⟨b, o + 1, none⟩ (.int .i64 0) := by
  have e1 := and_top k hk
  go_enter Yba.func19, Yba.ntmps19
  go_wp2
  go_end0
  exact ⟨rfl, rfl⟩

set_option maxHeartbeats 1000000 in
set_option maxRecDepth 100000 in
theorem add (k : Nat) (w : World) (hk : k ≤ 1024) : Calls Yba.prog 10 #[.agg #[.int .u64 0, .int .i64 0, .pointer none], .int .i64 k] w fun e w' => e = .returned (tm k) ∧ Below w.heap.size w w' := by
  have e1 := and_top k hk
  have e2 := andNot_zero
  have e3 := or_zero k hk
  have b3 : (k : Int).tdiv 1000000000 = 0 := by rw [Int.tdiv_eq_ediv_of_nonneg (by omega)]; omega
  have b4 : (k : Int).tmod 1000000000 = k := by rw [Int.tmod_eq_emod_of_nonneg (by omega)]; omega
  have d1 : decide ((1000000000 : Int) ≤ (k : Int)) = false := decide_eq_false (by omega)
  have c3 : IntKind.i32.wrap (k : Int) = k := by rw [IntKind.wrap_i32]; omega
  go_enter Yba.func10, Yba.ntmps10
  go_wp2_with (first
    | (go_at_call 17; refine (nsec0 _ _ ?_).mono ?_; (simp); rintro e w' ⟨rfl, rfl⟩)
    | (go_at_call 19; refine (addSec _ 0 k _ hk ?_ ?_ ?_).mono ?_; (simp); (simp); (simp); rintro e w' ⟨rfl, rfl⟩))
  go_returns
  exact ⟨rfl, ((Below.refl _ _).alloc (Nat.le_refl _) _).alloc (by simp) _⟩

theorem equal (k : Nat) (w : World) (hk : k ≤ 1024) : Calls Yba.prog 8 #[tm k, tm k] w fun e w' => e = .returned (.bool true) ∧ Below w.heap.size w w' := by
  unfold tm
  have e1 := and_top k hk
  have e2 := and_same k hk
  go_enter Yba.func8, Yba.ntmps8
  go_wp2
  go_ret
  exact ⟨rfl, ((Below.refl _ _).alloc (Nat.le_refl _) _).alloc (by simp) _⟩
end Go.Proofs.Ybulkbdpe
